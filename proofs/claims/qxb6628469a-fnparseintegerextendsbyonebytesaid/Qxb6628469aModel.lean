/-
  THE WALKS OF 'zzModelParse' (function 6). By an AI agent.
-/
import Derived.Test.Qxb6628469aParse
namespace Go.Proofs.Qxb6628469a
open Go.RowKit
set_option linter.unusedVariables false

/-! ### The two bounds' texts -/
def limP : List Int := [57, 50, 50, 51, 51, 55, 50, 48, 51, 54, 56, 53, 52, 55, 55, 53, 56, 48, 55]
def limN : List Int := [57, 50, 50, 51, 51, 55, 50, 48, 51, 54, 56, 53, 52, 55, 55, 53, 56, 48, 56]
theorem limP_val : Plain.val limP = 9223372036854775807 := by decide
theorem limN_val : Plain.val limN = 9223372036854775808 := by decide
theorem limP_digs : Plain.Digs limP := by unfold Plain.Digs limP; decide
theorem limN_digs : Plain.Digs limN := by unfold Plain.Digs limN; decide
theorem limP_at : ∀ (k : Nat) (_ : k < 19) (h : k < ByteArray.size ⟨#[57, 50, 50, 51, 51, 55, 50, 48, 51, 54, 56, 53, 52, 55, 55, 53, 56, 48, 55]⟩),
    ((((⟨#[57, 50, 50, 51, 51, 55, 50, 48, 51, 54, 56, 53, 52, 55, 55, 53, 56, 48, 55]⟩ : ByteArray)[k]'h).toNat : Nat) : Int) = limP[k]?.getD 0 := by
  decide
theorem limN_at : ∀ (k : Nat) (_ : k < 19) (h : k < ByteArray.size ⟨#[57, 50, 50, 51, 51, 55, 50, 48, 51, 54, 56, 53, 52, 55, 55, 53, 56, 48, 56]⟩),
    ((((⟨#[57, 50, 50, 51, 51, 55, 50, 48, 51, 54, 56, 53, 52, 55, 55, 53, 56, 48, 56]⟩ : ByteArray)[k]'h).toNat : Nat) : Int) = limN[k]?.getD 0 := by
  decide

/-! ### Rows of digits compared from the left -/
theorem split_at {l : List Int} {k : Nat} (h : k < l.length) : l = l.take k ++ l[k]?.getD 0 :: l.drop (k + 1) := by
  rw [List.getElem?_eq_getElem h]
  simp
theorem digs_drop {l : List Int} (h : Plain.Digs l) (k : Nat) : Plain.Digs (l.drop k) := fun c hc => h c (List.mem_of_mem_drop hc)
theorem digs_take {l : List Int} (h : Plain.Digs l) (k : Nat) : Plain.Digs (l.take k) := fun c hc => h c (List.mem_of_mem_take hc)
theorem lex_lt {x y : List Int} {k : Nat} (hl : x.length = y.length) (hx : Plain.Digs x) (hy : Plain.Digs y) (hk : k < x.length) (he : x.take k = y.take k) (h : x[k]?.getD 0 < y[k]?.getD 0) : Plain.val x < Plain.val y := by
  have e1 := split_at hk
  have e2 := split_at (l := y) (k := k) (by omega)
  rw [e1, e2, he]
  exact Plain.val_lt _ _ _ _ _ (digs_drop hx _) (digs_drop hy _) (by simp; omega) h
theorem take_same {x y : List Int} {k : Nat} (hx : k < x.length) (hy : k < y.length) (he : x.take k = y.take k) (h : x[k]?.getD 0 = y[k]?.getD 0) : x.take (k + 1) = y.take (k + 1) := by
  rw [take_next hx, take_next hy, he, h]
theorem val_take_le {l : List Int} (h : Plain.Digs l) (k : Nat) : Plain.val (l.take k) ≤ Plain.val l := by
  have e : Plain.val l = Plain.val (l.take k ++ l.drop k) := by rw [List.take_append_drop]
  rw [e, Plain.val_append]
  have h1 := (Plain.val_bd _ (digs_take h k)).1
  have h2 := (Plain.val_bd _ (digs_drop h k)).1
  have h3 := Plain.pow_pos' (l.drop k).length
  have : Plain.val (l.take k) * 1 ≤ Plain.val (l.take k) * 10 ^ (l.drop k).length := Int.mul_le_mul_of_nonneg_left h3 h1
  omega
/-- What a round of the last loop wants: the bounds within which nothing wraps. -/
theorem acc_bd {l : List Int} {k : Nat} {L : Int} (h : Plain.Digs l) (hk : k < l.length) (hL : Plain.val l ≤ L) :
    0 ≤ Plain.val (l.take k) ∧ 48 ≤ l[k]?.getD 0 ∧ l[k]?.getD 0 ≤ 57 ∧ Plain.val (l.take k) * 10 + (l[k]?.getD 0 - 48) ≤ L := by
  have h1 := h _ (mem_at hk)
  refine ⟨(Plain.val_bd _ (digs_take h k)).1, h1.1, h1.2, ?_⟩
  rw [← val_next hk]
  have := val_take_le h (k + 1)
  omega
theorem too_long {l : List Int} (hd : Plain.Digs l) (h48 : l[0]?.getD 0 ≠ 48) (h : 19 < l.length) {L : Int} (hL : L ≤ 9223372036854775808) : ¬ (Plain.Digs l ∧ Plain.val l ≤ L) := by
  rintro ⟨_, h2⟩
  match l, h with
  | c :: t, h =>
    have h3 := hd.cons
    simp at h48 h
    have := Plain.val_20 c t h3.2.2 (by omega) (by omega)
    omega

/-- The empty row, nil or not. -/
theorem model_none (a : Option Addr) (cap : Nat) (w : World) :
    Calls Try.prog 6 #[.slice a 0 cap] w fun e w' => e = .returned (.tuple #[.int .i64 0, .bool false]) ∧ w' = w := by
  go_enter Try.func6, Try.ntmps6
  go_wp2
  go_ret2
  exact ⟨rfl, rfl⟩
/-- The text of a lone dash. -/
theorem model_dash (b off cap : Nat) (w : World) (hc0 : w.cell? ⟨b, off, none⟩ = some (.int .u8 45)) :
    Calls Try.prog 6 #[.slice (some ⟨b, off, none⟩) 1 cap] w fun e w' => e = .returned (.tuple #[.int .i64 0, .bool false]) ∧ w' = w := by
  go_enter Try.func6, Try.ntmps6
  go_wp2
  go_ret2
  exact ⟨rfl, rfl⟩

/-- What a text that opens with 0 ends in. -/
def EndsZ (zs : List Int) (n : Nat) (e : Ending) : Prop :=
  (e = .returned (.tuple #[.int .i64 0, .bool false]) ∧ (¬ Plain.Digs zs ∨ n ≠ 1)) ∨ (e = .returned (.tuple #[.int .i64 0, .bool true]) ∧ n = 1)
theorem endsZ_bad {zs : List Int} {n k : Nat} (hk : k < zs.length) (h : zs[k]?.getD 0 < 48 ∨ 57 < zs[k]?.getD 0) : EndsZ zs n (.returned (.tuple #[.int .i64 0, .bool false])) :=
  .inl ⟨rfl, .inl fun g => by have := g _ (mem_at hk); omega⟩
theorem endsZ_more {zs : List Int} {n : Nat} (h : ((n : Int) == 1) = false) : EndsZ zs n (.returned (.tuple #[.int .i64 0, .bool false])) :=
  .inl ⟨rfl, .inr fun g => by subst g; simp at h⟩
theorem endsZ_one {zs : List Int} {n : Nat} (h : ((n : Int) == 1) = true) : EndsZ zs n (.returned (.tuple #[.int .i64 0, .bool true])) :=
  .inr ⟨rfl, by simp at h; omega⟩

set_option maxHeartbeats 400000 in
theorem model_zero_pos (b off cap n : Nat) (zs : List Int) (w : World) (hn : 1 ≤ n) (HN : Hid (zs.length = n)) (hcap : n  ≤ cap) (hm : cap ≤ maxLen)
    (hc0 : w.cell? ⟨b, off , none⟩ = some (.int .u8 48))
    (hcell : ∀ i, i < n → w.cell? ⟨b, off + i, none⟩ = some (.int .u8 (zs.getD i 0)))
    (hw : ∀ i : Nat, 0 ≤ zs[i]?.getD 0 ∧ zs[i]?.getD 0 ≤ 255) :
    Calls Try.prog 6 #[.slice (some ⟨b, off, none⟩) n cap] w fun e w' => EndsZ zs n e ∧ w' = w := by
  unfold maxLen at hm
  have h5 : ((n : Int) == 0) = false := by rw [beq_eq_false_iff_ne]; omega
  have h6 : decide ((0 : Int) < n) = true := by simp; omega
  go_enter Try.func6, Try.ntmps6
  go_wp2
  go_loop [7] (fun i => ∃ k : Nat, k ≤ n ∧ i = .int .i64 (k) ∧ Plain.Digs (zs.take k)) (fun i => (n) - (intOf i).toNat)
  case atStart => exact ⟨0, Nat.zero_le _, rfl, by simp [Plain.Digs]⟩
  case round =>
    obtain ⟨k, hk, rfl, hd⟩ := hrel
    by_cases hlt : k < n
    · have hck := hcell k hlt
      obtain ⟨hw1, hw2⟩ := hw k
      have HD : Hid (Plain.Digs (zs.take k)) := hd
      clear hd hw
      by_cases hlo : zs[k]?.getD 0 < 48
      · have hlo' : decide (zs[k]?.getD 0 < 48) = true := by simpa using hlo
        go_wp2
        go_ret2
        exact ⟨endsZ_bad (HN.out ▸ hlt) (.inl hlo), rfl⟩
      · have hlo' : decide (zs[k]?.getD 0 < 48) = false := by simpa using hlo
        by_cases hhi : 57 < zs[k]?.getD 0
        · go_wp2
          go_ret2
          exact ⟨endsZ_bad (HN.out ▸ hlt) (.inr hhi), rfl⟩
        · go_wp2
          go_round
          case rel =>
            have hz : k < zs.length := HN.out ▸ hlt
            exact ⟨k + 1, by omega, by go_num, digs_next hz HD.out (by omega) (by omega)⟩
          case measure => simp [intOf]; omega
    · have hkn : k = n := by omega
      cases h1 : ((n : Int) == 1)
      · go_wp2
        go_ret2
        exact ⟨endsZ_more h1, rfl⟩
      · go_wp2
        go_ret2
        exact ⟨endsZ_one h1, rfl⟩

set_option maxHeartbeats 400000 in
theorem model_zero_neg (b off cap n : Nat) (zs : List Int) (w : World) (hn : 1 ≤ n) (HN : Hid (zs.length = n)) (hcap : n + 1 ≤ cap) (hm : cap ≤ maxLen)
    (hs0 : w.cell? ⟨b, off, none⟩ = some (.int .u8 45)) (hc0 : w.cell? ⟨b, off + 1, none⟩ = some (.int .u8 48))
    (hcell : ∀ i, i < n → w.cell? ⟨b, off + (i + 1), none⟩ = some (.int .u8 (zs.getD i 0)))
    (hw : ∀ i : Nat, 0 ≤ zs[i]?.getD 0 ∧ zs[i]?.getD 0 ≤ 255) :
    Calls Try.prog 6 #[.slice (some ⟨b, off, none⟩) (n + 1) cap] w fun e w' => e = .returned (.tuple #[.int .i64 0, .bool false]) ∧ w' = w := by
  unfold maxLen at hm
  have h5 : ((n : Int) == 0) = false := by rw [beq_eq_false_iff_ne]; omega
  skip
  go_enter Try.func6, Try.ntmps6
  go_wp2
  go_loop [7] (fun i => ∃ k : Nat, k ≤ n ∧ i = .int .i64 ((k : Int) + 1) ∧ Plain.Digs (zs.take k)) (fun i => (n + 1) - (intOf i).toNat)
  case atStart => exact ⟨0, Nat.zero_le _, rfl, by simp [Plain.Digs]⟩
  case round =>
    obtain ⟨k, hk, rfl, hd⟩ := hrel
    by_cases hlt : k < n
    · have hck := hcell k hlt
      obtain ⟨hw1, hw2⟩ := hw k
      have HD : Hid (Plain.Digs (zs.take k)) := hd
      clear hd hw
      by_cases hlo : zs[k]?.getD 0 < 48
      · have hlo' : decide (zs[k]?.getD 0 < 48) = true := by simpa using hlo
        go_wp2
        go_ret2
        exact ⟨rfl, rfl⟩
      · have hlo' : decide (zs[k]?.getD 0 < 48) = false := by simpa using hlo
        by_cases hhi : 57 < zs[k]?.getD 0
        · go_wp2
          go_ret2
          exact ⟨rfl, rfl⟩
        · go_wp2
          go_round
          case rel =>
            have hz : k < zs.length := HN.out ▸ hlt
            exact ⟨k + 1, by omega, by go_num, digs_next hz HD.out (by omega) (by omega)⟩
          case measure => simp [intOf]; omega
    · have hkn : k = n := by omega
      cases h1 : ((n : Int) == 1)
      · go_wp2
        go_ret2
        exact ⟨rfl, rfl⟩
      · go_wp2
        go_ret2
        exact ⟨rfl, rfl⟩

set_option maxHeartbeats 1000000 in
theorem model_pos (b off cap n : Nat) (d : Int) (zs : List Int) (w : World) (hn : 1 ≤ n) (HN : Hid (zs.length = n)) (hcap : n  ≤ cap) (hm : cap ≤ maxLen)
    (hd0 : Hid (d = zs[0]?.getD 0))
    (hc0 : w.cell? ⟨b, off , none⟩ = some (.int .u8 d))
    (hcell : ∀ i, i < n → w.cell? ⟨b, off + i, none⟩ = some (.int .u8 (zs.getD i 0)))
    (hw : ∀ i : Nat, 0 ≤ zs[i]?.getD 0 ∧ zs[i]?.getD 0 ≤ 255) (h45 : (d == 45) = false) (h48 : (d == 48) = false) :
    Calls Try.prog 6 #[.slice (some ⟨b, off, none⟩) n cap] w fun e w' => Ends zs 9223372036854775807 1 e ∧ w' = w := by
  unfold maxLen at hm
  have h48' : zs[0]?.getD 0 ≠ 48 := by rw [← hd0.out]; simpa using h48
  have H48 : Hid (zs[0]?.getD 0 ≠ 48) := h48'
  clear h48'
  have h5 : ((n : Int) == 0) = false := by rw [beq_eq_false_iff_ne]; omega
  have h6 : decide ((0 : Int) < n) = true := by simp; omega
  go_enter Try.func6, Try.ntmps6
  go_wp2
  go_loop [7] (fun i => ∃ k : Nat, k ≤ n ∧ i = .int .i64 (k) ∧ Plain.Digs (zs.take k)) (fun i => (n) - (intOf i).toNat)
  case atStart => exact ⟨0, Nat.zero_le _, rfl, by simp [Plain.Digs]⟩
  case round =>
    obtain ⟨k, hk, rfl, hd⟩ := hrel
    by_cases hlt : k < n
    · have hck := hcell k hlt
      obtain ⟨hw1, hw2⟩ := hw k
      have HD : Hid (Plain.Digs (zs.take k)) := hd
      clear hd hw
      by_cases hlo : zs[k]?.getD 0 < 48
      · have hlo' : decide (zs[k]?.getD 0 < 48) = true := by simpa using hlo
        go_wp2
        go_ret2
        exact ⟨ends_bad (HN.out ▸ hlt) (.inl hlo), rfl⟩
      · have hlo' : decide (zs[k]?.getD 0 < 48) = false := by simpa using hlo
        by_cases hhi : 57 < zs[k]?.getD 0
        · go_wp2
          go_ret2
          exact ⟨ends_bad (HN.out ▸ hlt) (.inr hhi), rfl⟩
        · go_wp2
          go_round
          case rel =>
            have hz : k < zs.length := HN.out ▸ hlt
            exact ⟨k + 1, by omega, by go_num, digs_next hz HD.out (by omega) (by omega)⟩
          case measure => simp [intOf]; omega
    · have hkn : k = n := by omega
      have hz : List.take k zs = zs := List.take_of_length_le (by have := HN.out; omega)
      rw [hz] at hd
      have HD : Hid (Plain.Digs zs) := hd
      clear hz hd
      by_cases hgt : 19 < n
      · go_wp2
        go_ret2
        exact ⟨ends_no (too_long HD.out H48.out (HN.out ▸ hgt) (by decide)), rfl⟩
      · have fin : ∀ k : Nat, k < n → Plain.val zs ≤ 9223372036854775807 → 0 ≤ Plain.val (zs.take k) ∧ 48 ≤ zs[k]?.getD 0 ∧ zs[k]?.getD 0 ≤ 57 ∧ Plain.val (zs.take k) * 10 + (zs[k]?.getD 0 - 48) ≤ 9223372036854775807 :=
          fun k hk hV => acc_bd HD.out (HN.out ▸ hk) hV
        have FIN : Hid (∀ k : Nat, k < n → Plain.val zs ≤ 9223372036854775807 → 0 ≤ Plain.val (zs.take k) ∧ 48 ≤ zs[k]?.getD 0 ∧ zs[k]?.getD 0 ≤ 57 ∧ Plain.val (zs.take k) * 10 + (zs[k]?.getD 0 - 48) ≤ 9223372036854775807) := fin
        clear fin
        by_cases heq : n = 19
        · have h19 : ((n : Int) == 19) = true := by rw [beq_iff_eq]; omega
          have hl19 : zs.length = limP.length := by rw [HN.out, heq]; rfl
          have HL : Hid (zs.length = limP.length) := hl19
          have HKN : Hid (k = n) := hkn
          have H19 : Hid (n = 19) := heq
          have hn19 : 19 ≤ n := by omega
          clear hkn heq hl19
          go_wp2
          go_loop [9] (fun i => ∃ j : Nat, j ≤ n ∧ i = .int .i64 j ∧ zs.take j = limP.take j) (fun i => n - (intOf i).toNat)
          case atStart => exact ⟨0, Nat.zero_le _, rfl, rfl⟩
          case round =>
            obtain ⟨j, hj, rfl, he⟩ := hrel
            have HE : Hid (zs.take j = limP.take j) := he
            clear he
            by_cases hlt2 : j < n
            · have hcj := hcell j hlt2
              have hj19 : j < 19 := by omega
              have hz : j < zs.length := HN.out ▸ hlt2
              have HZ : Hid (j < zs.length) := hz
              clear hz
              obtain ⟨hwj1, hwj2⟩ := hw j
              go_wp2
              · -- the text is the less from here on
                have hlt3 := ‹zs[j]?.getD 0 < _›
                rw [limP_at j hj19] at hlt3
                have hV : Plain.val zs ≤ 9223372036854775807 := by
                  have := lex_lt HL.out HD.out limP_digs HZ.out HE.out hlt3
                  rw [limP_val] at this; omega
                clear hlt3 hwj1 hwj2 hcj
                go_loop [11, 12] (fun a i => ∃ j : Nat, j ≤ n ∧ i = .int .i64 (j) ∧ a = .int .i64 (-Plain.val (zs.take j))) (fun _ i => (n) - (intOf i).toNat)
                case atStart => exact ⟨0, Nat.zero_le _, rfl, rfl⟩
                case round =>
                  obtain ⟨i, hi, rfl, rfl⟩ := hrel
                  by_cases hlt4 : i < n
                  · obtain ⟨q1, q2, q3, q4⟩ := FIN.out i hlt4 hV
                    have hci := hcell i hlt4
                    go_wp2
                    go_round
                    case rel => exact ⟨i + 1, by omega, by go_num, by rw [val_next (HN.out ▸ hlt4)]; go_num⟩
                    case measure => simp [intOf]; omega
                  · have hz : List.take i zs = zs := List.take_of_length_le (by have := HN.out; omega)
                    have q0 := (Plain.val_bd zs HD.out).1
                    rw [hz]
                    clear hz
                    go_wp2
                    go_ret2
                    exact ⟨ends_yes HD.out hV (by omega), rfl⟩
              · -- it is the greater
                have hgt3 := ‹_ < zs[j]?.getD 0›
                rw [limP_at j hj19] at hgt3
                go_ret2
                refine ⟨ends_no fun h => ?_, rfl⟩
                have := lex_lt HL.out.symm limP_digs HD.out (HL.out ▸ HZ.out) HE.out.symm hgt3
                rw [limP_val] at this
                have := h.2
                omega
              · -- even so far
                have g1 := ‹_ ≤ zs[j]?.getD 0›
                have g2 := ‹zs[j]?.getD 0 ≤ _›
                rw [limP_at j hj19] at g1 g2
                go_round
                case rel => exact ⟨j + 1, by omega, by go_num, take_same HZ.out (HL.out ▸ HZ.out) HE.out (by omega)⟩
                case measure => simp [intOf]; omega
            · have hV : Plain.val zs ≤ 9223372036854775807 := by
                have e : zs = limP := by
                  have h1 := HE.out
                  rwa [List.take_of_length_le (by have := HN.out; omega), List.take_of_length_le (by have := HN.out; have := HL.out; omega)] at h1
                rw [e, limP_val]; decide
              go_wp2
              go_loop [11, 12] (fun a i => ∃ j : Nat, j ≤ n ∧ i = .int .i64 (j) ∧ a = .int .i64 (-Plain.val (zs.take j))) (fun _ i => (n) - (intOf i).toNat)
              case atStart => exact ⟨0, Nat.zero_le _, rfl, rfl⟩
              case round =>
                obtain ⟨i, hi, rfl, rfl⟩ := hrel
                by_cases hlt4 : i < n
                · obtain ⟨q1, q2, q3, q4⟩ := FIN.out i hlt4 hV
                  have hci := hcell i hlt4
                  go_wp2
                  go_round
                  case rel => exact ⟨i + 1, by omega, by go_num, by rw [val_next (HN.out ▸ hlt4)]; go_num⟩
                  case measure => simp [intOf]; omega
                · have hz : List.take i zs = zs := List.take_of_length_le (by have := HN.out; omega)
                  have q0 := (Plain.val_bd zs HD.out).1
                  rw [hz]
                  clear hz
                  go_wp2
                  go_ret2
                  exact ⟨ends_yes HD.out hV (by omega), rfl⟩
        · have h19 : ((n : Int) == 19) = false := by rw [beq_eq_false_iff_ne]; omega
          have hV : Plain.val zs ≤ 9223372036854775807 := by
            have := Plain.val_18 zs HD.out (by have := HN.out; omega)
            omega
          have HKN : Hid (k = n) := hkn
          have H19 : Hid (¬ n = 19) := heq
          have hn19 : n ≤ 18 := by omega
          clear hkn heq
          go_wp2
          go_loop [11, 12] (fun a i => ∃ j : Nat, j ≤ n ∧ i = .int .i64 (j) ∧ a = .int .i64 (-Plain.val (zs.take j))) (fun _ i => (n) - (intOf i).toNat)
          case atStart => exact ⟨0, Nat.zero_le _, rfl, rfl⟩
          case round =>
            obtain ⟨i, hi, rfl, rfl⟩ := hrel
            by_cases hlt4 : i < n
            · obtain ⟨q1, q2, q3, q4⟩ := FIN.out i hlt4 hV
              have hci := hcell i hlt4
              go_wp2
              go_round
              case rel => exact ⟨i + 1, by omega, by go_num, by rw [val_next (HN.out ▸ hlt4)]; go_num⟩
              case measure => simp [intOf]; omega
            · have hz : List.take i zs = zs := List.take_of_length_le (by have := HN.out; omega)
              have q0 := (Plain.val_bd zs HD.out).1
              rw [hz]
              clear hz
              go_wp2
              go_ret2
              exact ⟨ends_yes HD.out hV (by omega), rfl⟩

set_option maxHeartbeats 1000000 in
theorem model_neg (b off cap n : Nat) (d : Int) (zs : List Int) (w : World) (hn : 1 ≤ n) (HN : Hid (zs.length = n)) (hcap : n + 1 ≤ cap) (hm : cap ≤ maxLen)
    (hd0 : Hid (d = zs[0]?.getD 0))
    (hs0 : w.cell? ⟨b, off, none⟩ = some (.int .u8 45)) (hc0 : w.cell? ⟨b, off + 1, none⟩ = some (.int .u8 d))
    (hcell : ∀ i, i < n → w.cell? ⟨b, off + (i + 1), none⟩ = some (.int .u8 (zs.getD i 0)))
    (hcell2 : ∀ i, i < n → w.cell? ⟨b, off + (1 + i), none⟩ = some (.int .u8 (zs.getD i 0))) (hw : ∀ i : Nat, 0 ≤ zs[i]?.getD 0 ∧ zs[i]?.getD 0 ≤ 255) (h48 : (d == 48) = false) :
    Calls Try.prog 6 #[.slice (some ⟨b, off, none⟩) (n + 1) cap] w fun e w' => Ends zs 9223372036854775808 (-1) e ∧ w' = w := by
  unfold maxLen at hm
  have h48' : zs[0]?.getD 0 ≠ 48 := by rw [← hd0.out]; simpa using h48
  have H48 : Hid (zs[0]?.getD 0 ≠ 48) := h48'
  clear h48'
  have h5 : ((n : Int) == 0) = false := by rw [beq_eq_false_iff_ne]; omega
  skip
  go_enter Try.func6, Try.ntmps6
  go_wp2
  go_loop [7] (fun i => ∃ k : Nat, k ≤ n ∧ i = .int .i64 ((k : Int) + 1) ∧ Plain.Digs (zs.take k)) (fun i => (n + 1) - (intOf i).toNat)
  case atStart => exact ⟨0, Nat.zero_le _, rfl, by simp [Plain.Digs]⟩
  case round =>
    obtain ⟨k, hk, rfl, hd⟩ := hrel
    by_cases hlt : k < n
    · have hck := hcell k hlt
      obtain ⟨hw1, hw2⟩ := hw k
      have HD : Hid (Plain.Digs (zs.take k)) := hd
      clear hd hw
      by_cases hlo : zs[k]?.getD 0 < 48
      · have hlo' : decide (zs[k]?.getD 0 < 48) = true := by simpa using hlo
        go_wp2
        go_ret2
        exact ⟨ends_bad (HN.out ▸ hlt) (.inl hlo), rfl⟩
      · have hlo' : decide (zs[k]?.getD 0 < 48) = false := by simpa using hlo
        by_cases hhi : 57 < zs[k]?.getD 0
        · go_wp2
          go_ret2
          exact ⟨ends_bad (HN.out ▸ hlt) (.inr hhi), rfl⟩
        · go_wp2
          go_round
          case rel =>
            have hz : k < zs.length := HN.out ▸ hlt
            exact ⟨k + 1, by omega, by go_num, digs_next hz HD.out (by omega) (by omega)⟩
          case measure => simp [intOf]; omega
    · have hkn : k = n := by omega
      have hz : List.take k zs = zs := List.take_of_length_le (by have := HN.out; omega)
      rw [hz] at hd
      have HD : Hid (Plain.Digs zs) := hd
      clear hz hd
      by_cases hgt : 19 < n
      · go_wp2
        go_ret2
        exact ⟨ends_no (too_long HD.out H48.out (HN.out ▸ hgt) (by decide)), rfl⟩
      · have fin : ∀ k : Nat, k < n → Plain.val zs ≤ 9223372036854775808 → 0 ≤ Plain.val (zs.take k) ∧ 48 ≤ zs[k]?.getD 0 ∧ zs[k]?.getD 0 ≤ 57 ∧ Plain.val (zs.take k) * 10 + (zs[k]?.getD 0 - 48) ≤ 9223372036854775808 :=
          fun k hk hV => acc_bd HD.out (HN.out ▸ hk) hV
        have FIN : Hid (∀ k : Nat, k < n → Plain.val zs ≤ 9223372036854775808 → 0 ≤ Plain.val (zs.take k) ∧ 48 ≤ zs[k]?.getD 0 ∧ zs[k]?.getD 0 ≤ 57 ∧ Plain.val (zs.take k) * 10 + (zs[k]?.getD 0 - 48) ≤ 9223372036854775808) := fin
        clear fin
        by_cases heq : n = 19
        · have h19 : ((n : Int) == 19) = true := by rw [beq_iff_eq]; omega
          have hl19 : zs.length = limN.length := by rw [HN.out, heq]; rfl
          have HL : Hid (zs.length = limN.length) := hl19
          have HKN : Hid (k = n) := hkn
          have H19 : Hid (n = 19) := heq
          have hn19 : 19 ≤ n := by omega
          clear hkn heq hl19
          go_wp2
          go_loop [9] (fun i => ∃ j : Nat, j ≤ n ∧ i = .int .i64 j ∧ zs.take j = limN.take j) (fun i => n - (intOf i).toNat)
          case atStart => exact ⟨0, Nat.zero_le _, rfl, rfl⟩
          case round =>
            obtain ⟨j, hj, rfl, he⟩ := hrel
            have HE : Hid (zs.take j = limN.take j) := he
            clear he
            by_cases hlt2 : j < n
            · have hcj := hcell2 j hlt2
              have hj19 : j < 19 := by omega
              have hz : j < zs.length := HN.out ▸ hlt2
              have HZ : Hid (j < zs.length) := hz
              clear hz
              obtain ⟨hwj1, hwj2⟩ := hw j
              go_wp2
              · -- the text is the less from here on
                have hlt3 := ‹zs[j]?.getD 0 < _›
                rw [limN_at j hj19] at hlt3
                have hV : Plain.val zs ≤ 9223372036854775808 := by
                  have := lex_lt HL.out HD.out limN_digs HZ.out HE.out hlt3
                  rw [limN_val] at this; omega
                clear hlt3 hwj1 hwj2 hcj
                go_loop [11, 12] (fun a i => ∃ j : Nat, j ≤ n ∧ i = .int .i64 ((j : Int) + 1) ∧ a = .int .i64 (-Plain.val (zs.take j))) (fun _ i => (n + 1) - (intOf i).toNat)
                case atStart => exact ⟨0, Nat.zero_le _, rfl, rfl⟩
                case round =>
                  obtain ⟨i, hi, rfl, rfl⟩ := hrel
                  by_cases hlt4 : i < n
                  · obtain ⟨q1, q2, q3, q4⟩ := FIN.out i hlt4 hV
                    have hci := hcell i hlt4
                    go_wp2
                    go_round
                    case rel => exact ⟨i + 1, by omega, by go_num, by rw [val_next (HN.out ▸ hlt4)]; go_num⟩
                    case measure => simp [intOf]; omega
                  · have hz : List.take i zs = zs := List.take_of_length_le (by have := HN.out; omega)
                    have q0 := (Plain.val_bd zs HD.out).1
                    rw [hz]
                    clear hz
                    go_wp2
                    go_ret2
                    exact ⟨ends_yes HD.out hV (by omega), rfl⟩
              · -- it is the greater
                have hgt3 := ‹_ < zs[j]?.getD 0›
                rw [limN_at j hj19] at hgt3
                go_ret2
                refine ⟨ends_no fun h => ?_, rfl⟩
                have := lex_lt HL.out.symm limN_digs HD.out (HL.out ▸ HZ.out) HE.out.symm hgt3
                rw [limN_val] at this
                have := h.2
                omega
              · -- even so far
                have g1 := ‹_ ≤ zs[j]?.getD 0›
                have g2 := ‹zs[j]?.getD 0 ≤ _›
                rw [limN_at j hj19] at g1 g2
                go_round
                case rel => exact ⟨j + 1, by omega, by go_num, take_same HZ.out (HL.out ▸ HZ.out) HE.out (by omega)⟩
                case measure => simp [intOf]; omega
            · have hV : Plain.val zs ≤ 9223372036854775808 := by
                have e : zs = limN := by
                  have h1 := HE.out
                  rwa [List.take_of_length_le (by have := HN.out; omega), List.take_of_length_le (by have := HN.out; have := HL.out; omega)] at h1
                rw [e, limN_val]; decide
              go_wp2
              go_loop [11, 12] (fun a i => ∃ j : Nat, j ≤ n ∧ i = .int .i64 ((j : Int) + 1) ∧ a = .int .i64 (-Plain.val (zs.take j))) (fun _ i => (n + 1) - (intOf i).toNat)
              case atStart => exact ⟨0, Nat.zero_le _, rfl, rfl⟩
              case round =>
                obtain ⟨i, hi, rfl, rfl⟩ := hrel
                by_cases hlt4 : i < n
                · obtain ⟨q1, q2, q3, q4⟩ := FIN.out i hlt4 hV
                  have hci := hcell i hlt4
                  go_wp2
                  go_round
                  case rel => exact ⟨i + 1, by omega, by go_num, by rw [val_next (HN.out ▸ hlt4)]; go_num⟩
                  case measure => simp [intOf]; omega
                · have hz : List.take i zs = zs := List.take_of_length_le (by have := HN.out; omega)
                  have q0 := (Plain.val_bd zs HD.out).1
                  rw [hz]
                  clear hz
                  go_wp2
                  go_ret2
                  exact ⟨ends_yes HD.out hV (by omega), rfl⟩
        · have h19 : ((n : Int) == 19) = false := by rw [beq_eq_false_iff_ne]; omega
          have hV : Plain.val zs ≤ 9223372036854775808 := by
            have := Plain.val_18 zs HD.out (by have := HN.out; omega)
            omega
          have HKN : Hid (k = n) := hkn
          have H19 : Hid (¬ n = 19) := heq
          have hn19 : n ≤ 18 := by omega
          clear hkn heq
          go_wp2
          go_loop [11, 12] (fun a i => ∃ j : Nat, j ≤ n ∧ i = .int .i64 ((j : Int) + 1) ∧ a = .int .i64 (-Plain.val (zs.take j))) (fun _ i => (n + 1) - (intOf i).toNat)
          case atStart => exact ⟨0, Nat.zero_le _, rfl, rfl⟩
          case round =>
            obtain ⟨i, hi, rfl, rfl⟩ := hrel
            by_cases hlt4 : i < n
            · obtain ⟨q1, q2, q3, q4⟩ := FIN.out i hlt4 hV
              have hci := hcell i hlt4
              go_wp2
              go_round
              case rel => exact ⟨i + 1, by omega, by go_num, by rw [val_next (HN.out ▸ hlt4)]; go_num⟩
              case measure => simp [intOf]; omega
            · have hz : List.take i zs = zs := List.take_of_length_le (by have := HN.out; omega)
              have q0 := (Plain.val_bd zs HD.out).1
              rw [hz]
              clear hz
              go_wp2
              go_ret2
              exact ⟨ends_yes HD.out hV (by omega), rfl⟩
end Go.Proofs.Qxb6628469a
