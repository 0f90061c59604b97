import Derived.Test.Qxb6628469aRows
import Derived.WalkKit
import Derived.WalkSpells
import Derived.WalkLawsBesides
import Derived.Test.Qxb6628469aPlain
namespace Go.Proofs.Qxb6628469a
open Go.RowKit
set_option linter.unusedVariables false

/-- What a parse of the digit row 'zs' under the bound 'L' ends in; 's': the sign. -/
def Ends (zs : List Int) (L s : Int) (e : Ending) : Prop :=
  (Plain.Digs zs ∧ Plain.val zs ≤ L ∧ e = .returned (.tuple #[.int .i64 (s * Plain.val zs), .bool true])) ∨ (¬ (Plain.Digs zs ∧ Plain.val zs ≤ L) ∧ e = .returned (.tuple #[.int .i64 0, .bool false]))
theorem ends_no {zs : List Int} {L s : Int} (h : ¬ (Plain.Digs zs ∧ Plain.val zs ≤ L)) : Ends zs L s (.returned (.tuple #[.int .i64 0, .bool false])) := .inr ⟨h, rfl⟩
theorem ends_yes {zs : List Int} {L s v : Int} (h : Plain.Digs zs) (h2 : Plain.val zs ≤ L) (hv : v = s * Plain.val zs) : Ends zs L s (.returned (.tuple #[.int .i64 v, .bool true])) := by
  subst hv; exact .inl ⟨h, h2, rfl⟩
theorem mem_at {zs : List Int} {k : Nat} (h : k < zs.length) : zs[k]?.getD 0 ∈ zs := by
  simp [List.getElem?_eq_getElem h]
theorem ends_bad {zs : List Int} {L s : Int} {k : Nat} (hk : k < zs.length) (h : zs[k]?.getD 0 < 48 ∨ 57 < zs[k]?.getD 0) : Ends zs L s (.returned (.tuple #[.int .i64 0, .bool false])) := by
  refine ends_no fun ⟨g, _⟩ => ?_
  have := g _ (mem_at hk)
  omega
theorem take_next {zs : List Int} {k : Nat} (h : k < zs.length) : zs.take (k + 1) = zs.take k ++ [zs[k]?.getD 0] := by
  rw [List.take_succ_eq_append_getElem h]; simp [List.getElem?_eq_getElem h]
theorem digs_next {zs : List Int} {k : Nat} (h : k < zs.length) (hd : Plain.Digs (zs.take k)) (h1 : 48 ≤ zs[k]?.getD 0) (h2 : zs[k]?.getD 0 ≤ 57) : Plain.Digs (zs.take (k + 1)) := by
  rw [take_next h]
  intro c hc
  simp only [List.mem_append, List.mem_singleton] at hc
  rcases hc with hc | rfl
  · exact hd c hc
  · exact ⟨h1, h2⟩
theorem val_next {zs : List Int} {k : Nat} (h : k < zs.length) : Plain.val (zs.take (k + 1)) = Plain.val (zs.take k) * 10 + (zs[k]?.getD 0 - 48) := by
  rw [take_next h, Plain.val_snoc]

theorem neg_wrap {x : Int} (h0 : 0 ≤ x) (h1 : x ≤ 9223372036854775808) : wrap64 (IntKind.u64.wrap (-x)) = -1 * x := by
  rw [IntKind.wrap_u64]; unfold wrap64; omega

set_option maxHeartbeats 400000 in
theorem parse_pos (b off cap n : Nat) (d : Int) (zs : List Int) (w : World) (hn : 1 ≤ n) (HN : Hid (zs.length = n)) (hcap : n ≤ cap) (hm : cap ≤ maxLen)
    (hc0 : w.cell? ⟨b, off, none⟩ = some (.int .u8 d))
    (hcell : ∀ i, i < n → w.cell? ⟨b, off + i, none⟩ = some (.int .u8 (zs.getD i 0)))
    (hw : ∀ i : Nat, 0 ≤ zs[i]?.getD 0 ∧ zs[i]?.getD 0 ≤ 255) (h48 : 49 ≤ d) (h57 : d ≤ 57) (h19 : n ≤ 19) :
    Calls Try.prog 7 #[.slice (some ⟨b, off, none⟩) n cap] w fun e w' => Ends zs 9223372036854775807 1 e ∧ w' = w := by
  unfold maxLen at hm
  have h1 : (d == 48) = false := by rw [beq_eq_false_iff_ne]; omega
  have h2 : (d == 45) = false := by rw [beq_eq_false_iff_ne]; omega
  have h3 : decide (d < 49) = false := by simp; omega
  have h4 : decide (57 < d) = false := by simp; omega
  have h5 : ((n : Int) == 0) = false := by rw [beq_eq_false_iff_ne]; omega
  have h6 : decide ((19 : Int) < n) = false := by simp; omega
  cases h7 : ((n : Int) == 1)
  all_goals
    go_enter Try.func7, Try.ntmps7
    go_wp2
    go_loop [5, 51] (fun u i => ∃ k : Nat, k ≤ n ∧ i = .int .i64 k ∧ u = .int .u64 (Plain.val (zs.take k)) ∧ Plain.Digs (zs.take k)) (fun _ i => n - (intOf i).toNat)
    case atStart => exact ⟨0, Nat.zero_le _, rfl, rfl, by simp [Plain.Digs]⟩
    case round =>
      obtain ⟨k, hk, rfl, rfl, hd⟩ := hrel
      by_cases hlt : k < n
      · have hv : 0 ≤ Plain.val (zs.take k) ∧ Plain.val (zs.take k) ≤ 999999999999999999 := Plain.val_18 _ hd (by simp; omega)
        obtain ⟨hv1, hv2⟩ := hv
        have hck := hcell k hlt
        obtain ⟨hw1, hw2⟩ := hw k
        have HD : Hid (Plain.Digs (zs.take k)) := hd
        clear hd hw
        by_cases hlo : zs[k]?.getD 0 < 48
        · go_wp2
          go_ret2
          exact ⟨ends_bad (HN.out ▸ hlt) (.inl hlo), rfl⟩
        · by_cases hhi : 57 < zs[k]?.getD 0
          · go_wp2
            go_ret2
            exact ⟨ends_bad (HN.out ▸ hlt) (.inr hhi), rfl⟩
          · go_wp2
            go_round
            case rel => 
              have hz : k < zs.length := HN.out ▸ hlt
              exact ⟨k + 1, by omega, by go_num, by rw [val_next hz], digs_next hz HD.out (by omega) (by omega)⟩
            case measure => simp [intOf]; omega
      · have hkn : k = n := by omega
        have hz : List.take k zs = zs := List.take_of_length_le (by have := HN.out; omega)
        rw [hz] at hd ⊢
        have HD : Hid (Plain.Digs zs) := hd
        have hv := Plain.val_19 zs hd (by have := HN.out; omega)
        clear hz hd
        by_cases hgt : 9223372036854775807 < Plain.val zs
        · go_wp2
          go_ret2
          exact ⟨ends_no (fun h => by have := h.2; omega), rfl⟩
        · go_wp2
          go_ret2
          exact ⟨ends_yes HD.out (by omega) (by omega), rfl⟩

set_option maxHeartbeats 400000 in
theorem parse_neg (b off cap n : Nat) (d : Int) (zs : List Int) (w : World) (hn : 1 ≤ n) (HN : Hid (zs.length = n)) (hcap : n + 1 ≤ cap) (hm : cap ≤ maxLen)
    (hs0 : w.cell? ⟨b, off, none⟩ = some (.int .u8 45))
    (hc0 : w.cell? ⟨b, off + 1, none⟩ = some (.int .u8 d))
    (hcell : ∀ i, i < n → w.cell? ⟨b, off + 1 + i, none⟩ = some (.int .u8 (zs.getD i 0)))
    (hw : ∀ i : Nat, 0 ≤ zs[i]?.getD 0 ∧ zs[i]?.getD 0 ≤ 255) (h48 : 49 ≤ d) (h57 : d ≤ 57) (h19 : n ≤ 19) :
    Calls Try.prog 7 #[.slice (some ⟨b, off, none⟩) (n + 1) cap] w fun e w' => Ends zs 9223372036854775808 (-1) e ∧ w' = w := by
  unfold maxLen at hm
  have h3 : decide (d < 49) = false := by simp; omega
  have h4 : decide (57 < d) = false := by simp; omega
  have h5 : ((n : Int) == 0) = false := by rw [beq_eq_false_iff_ne]; omega
  have h6 : decide ((19 : Int) < n) = false := by simp; omega
  have h7 : ((n : Int) + 1 == 1) = false := by rw [beq_eq_false_iff_ne]; omega
  go_enter Try.func7, Try.ntmps7
  go_wp2
  go_loop [5, 51] (fun u i => ∃ k : Nat, k ≤ n ∧ i = .int .i64 k ∧ u = .int .u64 (Plain.val (zs.take k)) ∧ Plain.Digs (zs.take k)) (fun _ i => n - (intOf i).toNat)
  case atStart => exact ⟨0, Nat.zero_le _, rfl, rfl, by simp [Plain.Digs]⟩
  case round =>
    obtain ⟨k, hk, rfl, rfl, hd⟩ := hrel
    by_cases hlt : k < n
    · have hv : 0 ≤ Plain.val (zs.take k) ∧ Plain.val (zs.take k) ≤ 999999999999999999 := Plain.val_18 _ hd (by simp; omega)
      obtain ⟨hv1, hv2⟩ := hv
      have hck := hcell k hlt
      obtain ⟨hw1, hw2⟩ := hw k
      have HD : Hid (Plain.Digs (zs.take k)) := hd
      clear hd hw
      by_cases hlo : zs[k]?.getD 0 < 48
      · go_wp2
        go_ret2
        exact ⟨ends_bad (HN.out ▸ hlt) (.inl hlo), rfl⟩
      · by_cases hhi : 57 < zs[k]?.getD 0
        · go_wp2
          go_ret2
          exact ⟨ends_bad (HN.out ▸ hlt) (.inr hhi), rfl⟩
        · go_wp2
          go_round
          case rel => 
            have hz : k < zs.length := HN.out ▸ hlt
            exact ⟨k + 1, by omega, by go_num, by rw [val_next hz], digs_next hz HD.out (by omega) (by omega)⟩
          case measure => simp [intOf]; omega
    · have hkn : k = n := by omega
      have hz : List.take k zs = zs := List.take_of_length_le (by have := HN.out; omega)
      rw [hz] at hd ⊢
      have HD : Hid (Plain.Digs zs) := hd
      have hv := Plain.val_19 zs hd (by have := HN.out; omega)
      clear hz hd
      by_cases hgt : 9223372036854775808 < Plain.val zs
      · go_wp2
        go_ret2
        exact ⟨ends_no (fun h => by have := h.2; omega), rfl⟩
      · go_wp2
        go_ret2
        exact ⟨ends_yes HD.out (by omega) (neg_wrap hv.1 (by omega)), rfl⟩

/-- The empty row, nil or not. -/
theorem parse_none (a : Option Addr) (cap : Nat) (w : World) :
    Calls Try.prog 7 #[.slice a 0 cap] w fun e w' => e = .returned (.tuple #[.int .i64 0, .bool false]) ∧ w' = w := by
  go_enter Try.func7, Try.ntmps7
  go_wp2
  go_ret2
  exact ⟨rfl, rfl⟩

/-- The text "0". -/
theorem parse_zero (b off cap : Nat) (w : World) (hc0 : w.cell? ⟨b, off, none⟩ = some (.int .u8 48)) :
    Calls Try.prog 7 #[.slice (some ⟨b, off, none⟩) 1 cap] w fun e w' => e = .returned (.tuple #[.int .i64 0, .bool true]) ∧ w' = w := by
  go_enter Try.func7, Try.ntmps7
  go_wp2
  go_ret2
  exact ⟨rfl, rfl⟩

/-- The text "-". -/
theorem parse_dash (b off cap : Nat) (w : World) (hcap : 1 ≤ cap) (hc0 : w.cell? ⟨b, off, none⟩ = some (.int .u8 45)) :
    Calls Try.prog 7 #[.slice (some ⟨b, off, none⟩) 1 cap] w fun e w' => e = .returned (.tuple #[.int .i64 0, .bool false]) ∧ w' = w := by
  go_enter Try.func7, Try.ntmps7
  go_wp2
  all_goals
    go_ret2
    exact ⟨rfl, rfl⟩

/-- A first byte that is no digit from 1 to 9, or more than 19 bytes: refused. -/
theorem parse_pos_no (b off cap n : Nat) (d : Int) (w : World) (hn : 1 ≤ n) (hcap : n ≤ cap) (hm : cap ≤ maxLen)
    (hc0 : w.cell? ⟨b, off, none⟩ = some (.int .u8 d)) (h45 : d ≠ 45) (hz : ¬ (n = 1 ∧ d = 48)) (hbad : 19 < n ∨ d < 49 ∨ 57 < d) :
    Calls Try.prog 7 #[.slice (some ⟨b, off, none⟩) n cap] w fun e w' => e = .returned (.tuple #[.int .i64 0, .bool false]) ∧ w' = w := by
  unfold maxLen at hm
  have h2 : (d == 45) = false := by rw [beq_eq_false_iff_ne]; omega
  have h5 : ((n : Int) == 0) = false := by rw [beq_eq_false_iff_ne]; omega
  have H : Hid (¬ (n = 1 ∧ d = 48)) := hz
  have H45 : Hid (d ≠ 45) := h45
  clear hz h45
  cases h7 : ((n : Int) == 1)
  · by_cases h19 : 19 < n
    · have h6 : decide ((19 : Int) < n) = true := by simp; omega
      clear hbad
      go_enter Try.func7, Try.ntmps7
      go_wp2
      go_ret2
      exact ⟨rfl, rfl⟩
    · have h6 : decide ((19 : Int) < n) = false := by simp; omega
      by_cases hlo : d < 49
      · have h3 : decide (d < 49) = true := by simp; omega
        clear hbad
        go_enter Try.func7, Try.ntmps7
        go_wp2
        go_ret2
        exact ⟨rfl, rfl⟩
      · have h3 : decide (d < 49) = false := by simp; omega
        have h4 : decide (57 < d) = true := by simp; omega
        clear hbad
        go_enter Try.func7, Try.ntmps7
        go_wp2
        go_ret2
        exact ⟨rfl, rfl⟩
  · have hn1 : n = 1 := by simp at h7; omega
    have h1 : (d == 48) = false := by rw [beq_eq_false_iff_ne]; intro h; exact H.out ⟨hn1, h⟩
    subst hn1
    by_cases hlo : d < 49
    · have h3 : decide (d < 49) = true := by simp; omega
      clear hbad
      go_enter Try.func7, Try.ntmps7
      go_wp2
      go_ret2
      exact ⟨rfl, rfl⟩
    · have h3 : decide (d < 49) = false := by simp; omega
      have h4 : decide (57 < d) = true := by simp; omega
      clear hbad
      go_enter Try.func7, Try.ntmps7
      go_wp2
      go_ret2
      exact ⟨rfl, rfl⟩

/-- The same behind a '-'. -/
theorem parse_neg_no (b off cap n : Nat) (d : Int) (w : World) (hn : 1 ≤ n) (hcap : n + 1 ≤ cap) (hm : cap ≤ maxLen)
    (hs0 : w.cell? ⟨b, off, none⟩ = some (.int .u8 45))
    (hc0 : w.cell? ⟨b, off + 1, none⟩ = some (.int .u8 d)) (hbad : 19 < n ∨ d < 49 ∨ 57 < d) :
    Calls Try.prog 7 #[.slice (some ⟨b, off, none⟩) (n + 1) cap] w fun e w' => e = .returned (.tuple #[.int .i64 0, .bool false]) ∧ w' = w := by
  unfold maxLen at hm
  have h5 : ((n : Int) == 0) = false := by rw [beq_eq_false_iff_ne]; omega
  have h7 : ((n : Int) + 1 == 1) = false := by rw [beq_eq_false_iff_ne]; omega
  by_cases h19 : 19 < n
  · have h6 : decide ((19 : Int) < n) = true := by simp; omega
    clear hbad
    go_enter Try.func7, Try.ntmps7
    go_wp2
    go_ret2
    exact ⟨rfl, rfl⟩
  · have h6 : decide ((19 : Int) < n) = false := by simp; omega
    by_cases hlo : d < 49
    · have h3 : decide (d < 49) = true := by simp; omega
      clear hbad
      go_enter Try.func7, Try.ntmps7
      go_wp2
      go_ret2
      exact ⟨rfl, rfl⟩
    · have h3 : decide (d < 49) = false := by simp; omega
      have h4 : decide (57 < d) = true := by simp; omega
      clear hbad
      go_enter Try.func7, Try.ntmps7
      go_wp2
      go_ret2
      exact ⟨rfl, rfl⟩
end Go.Proofs.Qxb6628469a
