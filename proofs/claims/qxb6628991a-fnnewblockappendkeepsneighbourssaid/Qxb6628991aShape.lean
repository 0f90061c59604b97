/-
  THE WALK OF FnNewBlockShapeAndDisjointRows (function 3). By an AI agent.
-/
import Derived.Test.Qxb6628991aNew
namespace Go.Proofs.Qxb6628991a
open Go.RowKit
set_option linter.unusedVariables false

/-- The marks that have been laid when t of them are. -/
def marks (t i : Nat) : Value := if i < t then .int .u16 i else .int .u16 0
theorem marks_next (t i : Nat) : (if i = t then Value.int .u16 (t : Int) else marks t i) = marks (t + 1) i := by
  unfold marks
  by_cases h : i = t
  · subst h; simp
  · rw [if_neg h]
    by_cases h2 : i < t
    · rw [if_pos h2, if_pos (by omega)]
    · rw [if_neg h2, if_neg (by omega)]

/-- What is known of a block behind NewBlock: the rows' headers, the marks. -/
def Blk (B C S N t : Nat) (w0 wr : World) : Prop :=
  wr.rowIs B 25 N (marks t) ∧ wr.rowIs (B + 1) 24 C (rowAt B S) ∧ Below B w0 wr

theorem blk_head {B C S N t j : Nat} {w0 wr : World} (h : Blk B C S N t w0 wr) (hj : j < C) : wr.cell? ⟨B + 1, j, none⟩ = some (.slice (some ⟨B, j * S, none⟩) S S) := h.2.1.cell hj
theorem blk_cell {B C S N t i : Nat} {w0 wr : World} (h : Blk B C S N t w0 wr) (hi : i < N) : wr.cell? ⟨B, i, none⟩ = some (marks t i) := h.1.cell hi
theorem blk_next {B C S N t : Nat} {w0 wr : World} (h : Blk B C S N t w0 wr) : Blk B C S N (t + 1) w0 (wr.setCell ⟨B, t, none⟩ (.int .u16 t)) :=
  ⟨(h.1.set t _).congr (fun i _ => marks_next t i), h.2.1.setOther (by simp) _, h.2.2.setCell (by simp) _⟩
theorem in_row {j k C S N : Nat} (HN : N = C * S) (hj : j < C) (hk : k < S) : j * S + k < N := by
  have := mul_bd HN hj
  have e3 : (j + 1) * S = j * S + S := Nat.succ_mul j S
  omega
theorem next_row (j S : Nat) : (j + 1) * S = j * S + S := Nat.succ_mul j S

/-- NewBlock of rows of no sample. -/
theorem new_zero (C : Nat) (w : World) (hC : C ≤ 65536) :
    Calls Try.prog 5 #[.int .i64 C, .int .i64 0] w fun e w' => e = .returned (.slice (some ⟨w.heap.size + 1, 0, none⟩) C C) ∧ Blk w.heap.size C 0 0 0 w w' :=
  (new_any C 0 0 w hC (by omega) (by omega) (show 0 = C * 0 by simp)).mono fun e w' ⟨h1, h2, h3, h4⟩ => ⟨h1, h2.congr (fun i hi => by omega), h3, h4⟩

set_option maxHeartbeats 400000 in
theorem shape_zero (C : Nat) (w : World) (hC : C ≤ 65536) :
    Calls Try.prog 3 #[.int .i64 C, .int .i64 0] w fun e w' => e = .returned (.bool true) ∧ Below w.heap.size w w' := by
  have c1 : decide ((C : Int) < 0) = false := by simp
  have c3 : decide ((65536 : Int) < C) = false := by simp; omega
  go_enter Try.func3, Try.ntmps3
  go_wp2_with fail
  refine (new_zero C _ hC).mono ?_
  rintro e w1 ⟨rfl, hb⟩
  have HB : Hid (Blk w.heap.size C 0 0 0 w w1) := hb
  clear hb
  go_wp2_with fail
  go_loop [6] (fun i => ∃ j : Nat, j ≤ C ∧ i = .int .i64 j) (fun i => C - (intOf i).toNat)
  case atStart => exact ⟨0, Nat.zero_le _, rfl⟩
  case round =>
    obtain ⟨j, hj, rfl⟩ := hrel
    by_cases hjl : j < C
    · have hh := blk_head HB.out hjl
      go_wp2_with fail
      refine wp_loop_rounds 1 ?_
      rw [rounds_succ]
      go_wp2_with fail
      go_round
      case rel => exact ⟨j + 1, by omega, by go_num⟩
      case measure => simp [intOf]; omega
    · go_wp2_with fail
      go_loop [9] (fun i => ∃ j : Nat, j ≤ C ∧ i = .int .i64 j) (fun i => C - (intOf i).toNat)
      case atStart => exact ⟨0, Nat.zero_le _, rfl⟩
      case round =>
        obtain ⟨j, hj, rfl⟩ := hrel
        by_cases hjl : j < C
        · go_wp2_with fail
          refine wp_loop_rounds 1 ?_
          rw [rounds_succ]
          go_wp2_with fail
          go_round
          case rel => exact ⟨j + 1, by omega, by go_num⟩
          case measure => simp [intOf]; omega
        · go_wp2_with fail
          go_loop [11] (fun i => ∃ j : Nat, j ≤ C ∧ i = .int .i64 j) (fun i => C - (intOf i).toNat)
          case atStart => exact ⟨0, Nat.zero_le _, rfl⟩
          case round =>
            obtain ⟨j, hj, rfl⟩ := hrel
            by_cases hjl : j < C
            · go_wp2_with fail
              refine wp_loop_rounds 1 ?_
              rw [rounds_succ]
              go_wp2_with fail
              go_round
              case rel => exact ⟨j + 1, by omega, by go_num⟩
              case measure => simp [intOf]; omega
            · go_wp2_with fail
              go_ret
              exact ⟨rfl, HB.out.2.2⟩

theorem set_same {wr : World} {a : Addr} {x y : Int} (h : x = y) : wr.setCell a (.int .u16 x) = wr.setCell a (.int .u16 y) := by rw [h]
theorem blk_step {B C S N q k : Nat} {w0 wr : World} (h : Blk B C S N (q + k) w0 wr) : Blk B C S N (q + (k + 1)) w0 (wr.setCell ⟨B, q + k, none⟩ (.int .u16 ((q : Int) + (k : Int)))) := by
  have := blk_next h
  rw [set_same (y := ((q + k : Nat) : Int)) (by omega)]
  exact this

set_option maxHeartbeats 1000000 in
theorem shape_main (C S N : Nat) (w : World) (hC : C ≤ 65536) (hS : S ≤ 65536) (hN : N ≤ 65536) (HN : Hid (N = C * S))
    (hq1 : decide ((0 : Int) < S) = true) (hq2 : decide (65536 / (S : Int) < (C : Int)) = false) (hq3 : 0 < S) :
    Calls Try.prog 3 #[.int .i64 C, .int .i64 S] w fun e w' => e = .returned (.bool true) ∧ Below w.heap.size w w' := by
  have c1 : decide ((C : Int) < 0) = false := by simp
  have c2 : decide ((S : Int) < 0) = false := by simp
  have c3 : decide ((65536 : Int) < C) = false := by simp; omega
  go_enter Try.func3, Try.ntmps3
  go_wp2_with fail
  refine (new_any C S N _ hC hS hN HN).mono ?_
  rintro e w1 ⟨rfl, r1, r2, r3⟩
  have HB : Hid (Blk w.heap.size C S N 0 w w1) := ⟨r1.congr (fun i _ => by simp [marks]), r2, r3⟩
  clear r1 r2 r3
  go_wp2_with fail
  -- every row has its length and capacity, every cell is zero
  go_loop [6] (fun i => ∃ j : Nat, j ≤ C ∧ i = .int .i64 j) (fun i => C - (intOf i).toNat)
  case atStart => exact ⟨0, Nat.zero_le _, rfl⟩
  case round =>
    obtain ⟨j, hj, rfl⟩ := hrel
    by_cases hjl : j < C
    · have hh := blk_head HB.out hjl
      obtain ⟨q, HQ⟩ : ∃ q, Hid (q = j * S) := ⟨_, rfl⟩
      rw [← HQ.out] at hh
      go_wp2_with fail
      go_loop [7] (fun i => ∃ k : Nat, k ≤ S ∧ i = .int .i64 k) (fun i => S - (intOf i).toNat)
      case atStart => exact ⟨0, Nat.zero_le _, rfl⟩
      case round =>
        obtain ⟨k, hk, rfl⟩ := hrel
        by_cases hkl : k < S
        · have hc : w1.cell? ⟨w.heap.size, q + k, none⟩ = some (.int .u16 0) := by
            rw [blk_cell HB.out (by rw [HQ.out]; exact in_row HN.out hjl hkl)]; simp [marks]
          go_wp2_with fail
          go_round
          case rel => exact ⟨k + 1, by omega, by go_num⟩
          case measure => simp [intOf]; omega
        · go_wp2_with fail
          go_round
          case rel => exact ⟨j + 1, by omega, by go_num⟩
          case measure => simp [intOf]; omega
    · -- every position is written with its running number
      go_wp2_with fail
      go_loopw [8, 9] (fun t i wr => ∃ j q : Nat, j ≤ C ∧ i = .int .i64 j ∧ t = .int .i64 q ∧ Hid (q = j * S) ∧ Hid (Blk w.heap.size C S N q w wr)) (fun _ i _ => C - (intOf i).toNat)
      case atStart => exact ⟨0, 0, Nat.zero_le _, rfl, rfl, show 0 = 0 * S by simp, HB⟩
      case round =>
        obtain ⟨j, q, hj, rfl, rfl, HQ, HR⟩ := hrel
        by_cases hjl : j < C
        · have hb : q + S ≤ N := by have := mul_bd HN.out hjl; rw [next_row, ← HQ.out] at this; exact this
          go_wp2_with fail
          go_loopw [8, 10] (fun t i wr => ∃ k : Nat, k ≤ S ∧ i = .int .i64 k ∧ t = .int .i64 ((q + k : Nat) : Int) ∧ Hid (Blk w.heap.size C S N (q + k) w wr)) (fun _ i _ => S - (intOf i).toNat)
          case atStart => exact ⟨0, Nat.zero_le _, rfl, rfl, HR⟩
          case round =>
            obtain ⟨k, hk, rfl, rfl, HR2⟩ := hrel
            by_cases hkl : k < S
            · have hh := blk_head HR2.out hjl
              rw [← HQ.out] at hh
              have hc := blk_cell HR2.out (i := q + k) (by omega)
              rw [show marks (q + k) (q + k) = .int .u16 0 by simp [marks]] at hc
              have hf := HR2.out.1.frozen (q + k)
              go_wp2_with fail
              go_roundw
              case rel => exact ⟨k + 1, by omega, by go_num, by go_num, blk_step HR2.out⟩
              case measure => simp [intOf]; omega
            · have hke : k = S := by omega
              have HK : Hid (k = S) := hke
              clear hke
              go_wp2_with fail
              go_roundw
              case rel => exact ⟨j + 1, q + k, by omega, by go_num, by go_num, show q + k = (j + 1) * S by rw [next_row, HQ.out, HK.out], HR2⟩
              case measure => simp [intOf]; omega
        · have hje : j = C := by omega
          have HF : Hid (Blk w.heap.size C S N N w wr) := by
            have h1 := HR.out
            rw [HQ.out, hje, ← HN.out] at h1
            exact h1
          clear hje
          -- each position reads back its own number
          go_wp2_with fail
          go_loop [8, 11] (fun t i => ∃ j q : Nat, j ≤ C ∧ i = .int .i64 j ∧ t = .int .i64 q ∧ Hid (q = j * S)) (fun _ i => C - (intOf i).toNat)
          case atStart => exact ⟨0, 0, Nat.zero_le _, rfl, rfl, show 0 = 0 * S by simp⟩
          case round =>
            obtain ⟨j, q, hj, rfl, rfl, HQ⟩ := hrel
            by_cases hjl : j < C
            · have hb : q + S ≤ N := by have := mul_bd HN.out hjl; rw [next_row, ← HQ.out] at this; exact this
              have hh := blk_head HF.out hjl
              rw [← HQ.out] at hh
              go_wp2_with fail
              go_loop [8, 12] (fun t i => ∃ k : Nat, k ≤ S ∧ i = .int .i64 k ∧ t = .int .i64 ((q + k : Nat) : Int)) (fun _ i => S - (intOf i).toNat)
              case atStart => exact ⟨0, Nat.zero_le _, rfl, rfl⟩
              case round =>
                obtain ⟨k, hk, rfl, rfl⟩ := hrel
                by_cases hkl : k < S
                · have hc := blk_cell HF.out (i := q + k) (by omega)
                  rw [show marks N (q + k) = .int .u16 ((q : Int) + (k : Int)) by unfold marks; rw [if_pos (by omega)]; go_num] at hc
                  go_wp2_with fail
                  go_round
                  case rel => exact ⟨k + 1, by omega, by go_num, by go_num⟩
                  case measure => simp [intOf]; omega
                · have HK : Hid (k = S) := show k = S by omega
                  go_wp2_with fail
                  go_round
                  case rel => exact ⟨j + 1, q + k, by omega, by go_num, by go_num, show q + k = (j + 1) * S by rw [next_row, HQ.out, HK.out]⟩
                  case measure => simp [intOf]; omega
            · go_wp2_with fail
              go_ret
              exact ⟨rfl, HF.out.2.2⟩

/-! ### The inputs that the law lets by -/
theorem shape_out (c s : Int) (w : World) (h : c < 0 ∨ (0 ≤ c ∧ s < 0) ∨ (0 ≤ c ∧ 0 ≤ s ∧ 65536 < c) ∨ (0 ≤ c ∧ 0 ≤ s ∧ c ≤ 65536 ∧ 65536 < s)) :
    Calls Try.prog 3 #[.int .i64 c, .int .i64 s] w fun e w' => e = .returned (.bool true) ∧ w' = w := by
  rcases h with h | ⟨h1, h2⟩ | ⟨h1, h2, h3⟩ | ⟨h1, h2, h3, h4⟩
  · have c1 : decide (c < 0) = true := by simpa using h
    go_enter Try.func3, Try.ntmps3
    go_wp2
    go_ret
    exact ⟨rfl, rfl⟩
  · have c1 : decide (c < 0) = false := by simp; omega
    have c2 : decide (s < 0) = true := by simpa using h2
    go_enter Try.func3, Try.ntmps3
    go_wp2
    go_ret
    exact ⟨rfl, rfl⟩
  · have c1 : decide (c < 0) = false := by simp; omega
    have c2 : decide (s < 0) = false := by simp; omega
    have c3 : decide (65536 < c) = true := by simpa using h3
    go_enter Try.func3, Try.ntmps3
    go_wp2
    go_ret
    exact ⟨rfl, rfl⟩
  · have c1 : decide (c < 0) = false := by simp; omega
    have c2 : decide (s < 0) = false := by simp; omega
    have c3 : decide (65536 < c) = false := by simp; omega
    go_enter Try.func3, Try.ntmps3
    go_wp2
    go_ret
    exact ⟨rfl, rfl⟩
theorem shape_many (c s : Int) (w : World) (h1 : 0 ≤ c) (h2 : c ≤ 65536) (h3 : 1 ≤ s) (h4 : s ≤ 65536) (h5 : 65536 / s < c) :
    Calls Try.prog 3 #[.int .i64 c, .int .i64 s] w fun e w' => e = .returned (.bool true) ∧ w' = w := by
  have c1 : decide (c < 0) = false := by simp; omega
  have c2 : decide (s < 0) = false := by simp; omega
  have c3 : decide (65536 < c) = false := by simp; omega
  have c4 : decide (0 < s) = true := by simp; omega
  go_enter Try.func3, Try.ntmps3
  go_wp2
  go_ret
  exact ⟨rfl, rfl⟩

theorem prod_bd {C S : Nat} (hS : 0 < S) (h : ¬ 65536 / (S : Int) < (C : Int)) : C * S ≤ 65536 := by
  have h1 : C ≤ 65536 / S := by
    have e : (65536 : Int) / (S : Int) = ((65536 / S : Nat) : Int) := by simp
    rw [e] at h
    omega
  calc C * S ≤ 65536 / S * S := Nat.mul_le_mul_right S h1
    _ ≤ 65536 := Nat.div_mul_le_self 65536 S

/-- The law, at every input. -/
theorem shape_any (c s : Int) (w : World) :
    Calls Try.prog 3 #[.int .i64 c, .int .i64 s] w fun e w' => e = .returned (.bool true) ∧ Below w.heap.size w w' := by
  by_cases h : c < 0 ∨ (0 ≤ c ∧ s < 0) ∨ (0 ≤ c ∧ 0 ≤ s ∧ 65536 < c) ∨ (0 ≤ c ∧ 0 ≤ s ∧ c ≤ 65536 ∧ 65536 < s)
  · exact (shape_out c s w h).mono fun e w' ⟨he, hw⟩ => ⟨he, hw ▸ Below.refl _ _⟩
  obtain ⟨C, rfl⟩ := Int.eq_ofNat_of_zero_le (show 0 ≤ c by omega)
  obtain ⟨S, rfl⟩ := Int.eq_ofNat_of_zero_le (show 0 ≤ s by omega)
  have hC : C ≤ 65536 := by omega
  have hS : S ≤ 65536 := by omega
  by_cases h0 : S = 0
  · subst h0; exact shape_zero C w hC
  by_cases h5 : 65536 / (S : Int) < (C : Int)
  · exact (shape_many C S w (by omega) (by omega) (by omega) (by omega) h5).mono fun e w' ⟨he, hw⟩ => ⟨he, hw ▸ Below.refl _ _⟩
  · exact shape_main C S (C * S) w hC hS (prod_bd (by omega) h5) rfl (by simp; omega) (by simpa using h5) (by omega)
end Go.Proofs.Qxb6628991a
