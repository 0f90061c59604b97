/-
  THE WALK OF FnNewBlockAppendKeepsNeighbours (function 4). By an AI agent.
-/
import Derived.Test.Qxb6628991aShape
namespace Go.Proofs.Qxb6628991a
open Go.RowKit
set_option linter.unusedVariables false

/-- The cells of row 'q / S' when every position bears its running number. -/
def oldCells (q S : Nat) : List Value := (List.range S).map fun k => .int .u16 ((q + k : Nat) : Int)
theorem old_len (q S : Nat) : (oldCells q S).length = S := by simp [oldCells]
theorem old_at {q S k : Nat} (h : k < S) : (oldCells q S)[k]? = some (.int .u16 ((q + k : Nat) : Int)) := by simp [oldCells, h]

theorem old_lie {B C S N q : Nat} {w0 wr : World} (h : Blk B C S N N w0 wr) (hq : q + S ≤ N) (o : Obj) :
    ∀ b : Addr, some (⟨B, q, none⟩ : Addr) = some b → ∀ j u, (oldCells q S)[j]? = some u → (wr.alloc o).cell? (b.add j) = some u := by
  intro b hb j u hu
  cases hb
  have hj : j < S := by have := (List.getElem?_eq_some_iff.1 hu).1; rwa [old_len] at this
  rw [old_at hj] at hu
  cases hu
  have h1 := blk_cell h (i := q + j) (by omega)
  rw [show marks N (q + j) = .int .u16 ((q + j : Nat) : Int) by unfold marks; rw [if_pos (by omega)]] at h1
  exact cell_later ((Below.refl _ wr).alloc (Nat.le_refl _) o) (by rw [Addr.add_lit]; exact h1)

/-- What is known behind the append and the store: the grown row's own block, the marks, the other rows' headers. -/
def Aft (B C S N q r g cap : Nat) (v : Int) (w0 wr : World) : Prop :=
  wr.rowIs B 25 N (marks N) ∧ wr.rowIs (B + 1) 24 C (fun j => if j = r then .slice (some ⟨g, 0, none⟩) (S + 1) cap else rowAt B S j) ∧
    (∀ k, k < S → wr.cell? ⟨g, k, none⟩ = some (.int .u16 ((q + k : Nat) : Int))) ∧ wr.cell? ⟨g, S, none⟩ = some (.int .u16 v) ∧ Below B w0 wr

theorem grown_known {B C S N q : Nat} {v : Int} {w0 wr w2 : World} {v' : Value} (h : Blk B C S N N w0 wr) (o : Obj)
    (hown : w2.ownsRow (wr.heap.size + 1) 25 1 v' (S + 1) (oldCells q S ++ [.int .u16 v])) (hgrow : (wr.alloc o).grownBy w2 none) :
    ∃ g cap, v' = .slice (some ⟨g, 0, none⟩) (S + 1) cap ∧ B + 1 < g ∧ Blk B C S N N w0 w2 ∧
      (∀ k, k < S → w2.cell? ⟨g, k, none⟩ = some (.int .u16 ((q + k : Nat) : Int))) ∧ w2.cell? ⟨g, S, none⟩ = some (.int .u16 v) := by
  have hB1 : B + 1 < wr.heap.size := h.2.1.lt
  have hB0 : B < wr.heap.size := h.1.lt
  have bel : Below wr.heap.size wr w2 := ((Below.refl _ wr).alloc (Nat.le_refl _) o).grown hgrow (by simp) (fun k h => by cases h)
  have hb2 : Blk B C S N N w0 w2 := ⟨h.1.of_block (bel.block B hB0), h.2.1.of_block (bel.block (B + 1) hB1), h.2.2.trans (bel.mono (by omega))⟩
  obtain ⟨_, hv⟩ := id hown
  rcases hv with ⟨_, h0⟩ | ⟨g, cap, cur, rfl, hg, _⟩
  · omega
  refine ⟨g, cap, rfl, by omega, hb2, fun k hk => ?_, ?_⟩
  · rw [hown.cellAt k (by omega), List.getElem?_append_left (by rw [old_len]; exact hk), old_at hk]
  · rw [hown.cellAt S (by omega), List.getElem?_append_right (by rw [old_len]; omega), old_len]; simp

theorem aft_of {B C S N q r g cap : Nat} {v : Int} {w0 w2 : World} (h : Blk B C S N N w0 w2) (hg : B + 1 < g)
    (hc : ∀ k, k < S → w2.cell? ⟨g, k, none⟩ = some (.int .u16 ((q + k : Nat) : Int))) (hv : w2.cell? ⟨g, S, none⟩ = some (.int .u16 v)) :
    Aft B C S N q r g cap v w0 (w2.setCell ⟨B + 1, r, none⟩ (.slice (some ⟨g, 0, none⟩) (S + 1) cap)) := by
  have far : ∀ k, (w2.setCell ⟨B + 1, r, none⟩ (.slice (some ⟨g, 0, none⟩) (S + 1) cap)).cell? ⟨g, k, none⟩ = w2.cell? ⟨g, k, none⟩ :=
    fun k => World.cell?_of_block (Below.heap_setCell _ _ _ _ (by simp; omega))
  exact ⟨h.1.setOther (by simp) _, h.2.1.set r _, fun k hk => by rw [far]; exact hc k hk, by rw [far]; exact hv, h.2.2.setCell (by simp) _⟩

theorem aft_own {B C S N q r g cap j : Nat} {v : Int} {w0 wr : World} (h : Aft B C S N q r g cap v w0 wr) (hj : j < C) (hr : j = r) :
    wr.cell? ⟨B + 1, j, none⟩ = some (.slice (some ⟨g, 0, none⟩) (S + 1) cap) := by rw [h.2.1.cell hj, if_pos hr]
theorem aft_other {B C S N q r g cap j : Nat} {v : Int} {w0 wr : World} (h : Aft B C S N q r g cap v w0 wr) (hj : j < C) (hr : ¬ j = r) :
    wr.cell? ⟨B + 1, j, none⟩ = some (.slice (some ⟨B, j * S, none⟩) S S) := by rw [h.2.1.cell hj, if_neg hr]; rfl
theorem aft_mark {B C S N q r g cap q' k : Nat} {v : Int} {w0 wr : World} (h : Aft B C S N q r g cap v w0 wr) (hq : q' = q) (hk : k < S) :
    wr.cell? ⟨g, k, none⟩ = some (.int .u16 ((q' : Int) + (k : Int))) := by rw [h.2.2.1 k hk, hq]; go_num
theorem aft_cell {B C S N q r g cap q' k : Nat} {v : Int} {w0 wr : World} (h : Aft B C S N q r g cap v w0 wr) (hi : q' + k < N) :
    wr.cell? ⟨B, q' + k, none⟩ = some (.int .u16 ((q' : Int) + (k : Int))) := by
  rw [h.1.cell hi]; unfold marks; rw [if_pos hi]; go_num

set_option maxHeartbeats 1000000 in
theorem append_main (C S N r p : Nat) (v : Int) (w : World) (hC : C ≤ 65536) (hS : S ≤ 65536) (hN : N ≤ 65536) (HN : Hid (N = C * S)) (hr : r < C) (HRQ : Hid (p = r * S)) (hv0 : 0 ≤ v) (hv1 : v ≤ 65535)
    (hq : (decide (0 < S) = false ∧ S ≤ 0) ∨ (decide ((0 : Int) < S) = true ∧ decide (65536 / (S : Int) < (C : Int)) = false ∧ 0 < S)) :
    Calls Try.prog 4 #[.int .i64 C, .int .i64 S, .int .i64 r, .int .u16 v] w fun e w' => e = .returned (.bool true) ∧ Below w.heap.size w w' := by
  have c1 : decide ((C : Int) < 0) = false := by simp
  have c2 : decide ((S : Int) < 0) = false := by simp
  have c3 : decide ((65536 : Int) < C) = false := by simp; omega
  have c4 : decide ((r : Int) < 0) = false := by simp
  obtain ⟨i0, hi, hz0, hz1, hz2⟩ := info_parts Try.info25
  rcases hq with ⟨hq1, hq2⟩ | ⟨hq1, hq2, hq3⟩
  all_goals
    go_enter Try.func4, Try.ntmps4
    go_wp2_with fail
    refine (new_any C S N _ hC hS hN HN).mono ?_
    rintro e w1 ⟨rfl, r1, r2, r3⟩
    have HB : Hid (Blk w.heap.size C S N 0 w w1) := ⟨r1.congr (fun i _ => by simp [marks]), r2, r3⟩
    clear r1 r2 r3
    go_wp2_with fail
    go_loop [10] (fun i => ∃ j : Nat, j ≤ C ∧ i = .int .i64 j) (fun i => C - (intOf i).toNat)
    case atStart => exact ⟨0, Nat.zero_le _, rfl⟩
    case round =>
      obtain ⟨j, hj, rfl⟩ := hrel
      by_cases hjl : j < C
      · have hh := blk_head HB.out hjl
        go_wp2_with fail
        go_round
        case rel => exact ⟨j + 1, by omega, by go_num⟩
        case measure => simp [intOf]; omega
      · go_wp2_with fail
        go_loopw [11, 12] (fun t i wr => ∃ j q : Nat, j ≤ C ∧ i = .int .i64 j ∧ t = .int .i64 q ∧ Hid (q = j * S) ∧ Hid (Blk w.heap.size C S N q w wr)) (fun _ i _ => C - (intOf i).toNat)
        case atStart => exact ⟨0, 0, Nat.zero_le _, rfl, rfl, show 0 = 0 * S by simp, HB⟩
        case round =>
          obtain ⟨j, q, hj, rfl, rfl, HQ, HR⟩ := hrel
          by_cases hjl : j < C
          · have hb : q + S ≤ N := by have := mul_bd HN.out hjl; rw [next_row, ← HQ.out] at this; exact this
            go_wp2_with fail
            go_loopw [11, 13] (fun t i wr => ∃ k : Nat, k ≤ S ∧ i = .int .i64 k ∧ t = .int .i64 ((q + k : Nat) : Int) ∧ Hid (Blk w.heap.size C S N (q + k) w wr)) (fun _ i _ => S - (intOf i).toNat)
            case atStart => exact ⟨0, Nat.zero_le _, rfl, rfl, HR⟩
            case round =>
              obtain ⟨k, hk, rfl, rfl, HR2⟩ := hrel
              by_cases hkl : k < S
              · try (exfalso; omega)
                all_goals
                  have hh := blk_head HR2.out hjl
                  rw [← HQ.out] at hh
                  have hc := blk_cell HR2.out (i := q + k) (by omega)
                  rw [show marks (q + k) (q + k) = .int .u16 0 by simp [marks]] at hc
                  have hf := HR2.out.1.frozen (q + k)
                  go_wp2_with fail
                  go_roundw
                  case rel => exact ⟨k + 1, by omega, by go_num, by go_num, blk_step HR2.out⟩
                  case measure => simp [intOf]; omega
              · have hke : k = S := by omega
                have HK : Hid (k = S) := hke
                clear hke
                go_wp2_with fail
                go_roundw
                case rel => exact ⟨j + 1, q + k, by omega, by go_num, by go_num, show q + k = (j + 1) * S by rw [next_row, HQ.out, HK.out], HR2⟩
                case measure => simp [intOf]; omega
          · have hje : j = C := by omega
            have HF : Hid (Blk w.heap.size C S N N w wr) := by
              have h1 := HR.out
              rw [HQ.out, hje, ← HN.out] at h1
              exact h1
            clear hje
            have hh := blk_head HF.out hr
            rw [← HRQ.out] at hh
            have hp : p + S ≤ N := by have := mul_bd HN.out hr; rw [next_row, ← HRQ.out] at this; exact this
            have hol := old_lie (q := p) HF.out hp (.cells #[.int .u16 v] 25)
            have HO : Hid (∀ b : Addr, some (⟨w.heap.size, p, none⟩ : Addr) = some b → ∀ j u, (oldCells p S)[j]? = some u → (wr.alloc (.cells #[.int .u16 v] 25)).cell? (b.add j) = some u) := hol
            clear hol
            go_wp2_with (at_builtin; refine wpList_append_grows _ rfl (.tmp 88) (.tmp 90) 24 rfl 25 i0 (.int .u16 0) 1 2 Try.underlying24 hi hz0 hz1 hz2 rfl (by decide) (some ⟨w.heap.size, p, none⟩) S S (oldCells p S) rfl (fun h => by cases h) (by rw [old_len]; omega) HO.out ⟨wr.heap.size, 0, none⟩ 1 1 [.int .u16 v] rfl rfl ?c1 ?c2 (by omega) (by unfold maxLen; omega) (by omega) ?grow)
            case c1 => intro j u hj; match j, hj with | 0, hj => simp at hj; subst hj; simp [Addr.add]
            case c2 => intro u hu; simp at hu; subst hu; rfl
            case grow =>
              intro v' w2 hown hgrow
              obtain ⟨g, cap, hv', hg, hb2, hcg, hcv⟩ := grown_known HF.out _ hown hgrow
              rw [hv']
              clear hown hgrow hv' HO hh HF HR HQ
              have hh2 := blk_head hb2 hr
              have hf2 := hb2.2.1.frozen r
              have HA : Hid (Aft w.heap.size C S N p r g cap v w (w2.setCell ⟨w.heap.size + 1, r, none⟩ (.slice (some ⟨g, 0, none⟩) (S + 1) cap))) := aft_of hb2 hg hcg hcv
              have hcv3 : (w2.setCell ⟨w.heap.size + 1, r, none⟩ (.slice (some ⟨g, 0, none⟩) (S + 1) cap)).cell? ⟨g, S, none⟩ = some (.int .u16 v) := HA.out.2.2.2.1
              clear hb2 hcg hcv
              go_wp2_with fail
              clear hh2 hf2 hcv3
              generalize w2.setCell ⟨w.heap.size + 1, r, none⟩ (.slice (some ⟨g, 0, none⟩) (S + 1) cap) = w3 at HA ⊢
              go_loop [11, 15] (fun t i => ∃ j q : Nat, j ≤ C ∧ i = .int .i64 j ∧ t = .int .i64 q ∧ Hid (q = j * S)) (fun _ i => C - (intOf i).toNat)
              case atStart => exact ⟨0, 0, Nat.zero_le _, rfl, rfl, show 0 = 0 * S by simp⟩
              case round =>
                obtain ⟨j, q, hj, rfl, rfl, HQ⟩ := hrel
                by_cases hjl : j < C
                · have hb : q + S ≤ N := by have := mul_bd HN.out hjl; rw [next_row, ← HQ.out] at this; exact this
                  by_cases hjr : j = r
                  · have hh := aft_own HA.out hjl hjr
                    have HE : Hid (q = p) := show q = p by rw [HQ.out, HRQ.out, hjr]
                    have HJ : Hid (j = r) := hjr
                    clear hjr
                    go_wp2_with fail
                    go_loop [11, 16] (fun t i => ∃ k : Nat, k ≤ S ∧ i = .int .i64 k ∧ t = .int .i64 ((q + k : Nat) : Int)) (fun _ i => S - (intOf i).toNat)
                    case atStart => exact ⟨0, Nat.zero_le _, rfl, rfl⟩
                    case round =>
                      obtain ⟨k, hk, rfl, rfl⟩ := hrel
                      by_cases hkl : k < S
                      · try (exfalso; omega)
                        all_goals
                          have hc := aft_mark HA.out HE.out hkl
                          go_wp2_with fail
                          go_round
                          case rel => exact ⟨k + 1, by omega, by go_num, by go_num⟩
                          case measure => simp [intOf]; omega
                      · have HK : Hid (k = S) := show k = S by omega
                        go_wp2_with fail
                        go_round
                        case rel => exact ⟨j + 1, q + k, by omega, by go_num, by go_num, show q + k = (j + 1) * S by rw [next_row, HQ.out, HK.out]⟩
                        case measure => simp [intOf]; omega
                  · have hh := aft_other HA.out hjl hjr
                    rw [← HQ.out] at hh
                    go_wp2_with fail
                    go_loop [11, 16] (fun t i => ∃ k : Nat, k ≤ S ∧ i = .int .i64 k ∧ t = .int .i64 ((q + k : Nat) : Int)) (fun _ i => S - (intOf i).toNat)
                    case atStart => exact ⟨0, Nat.zero_le _, rfl, rfl⟩
                    case round =>
                      obtain ⟨k, hk, rfl, rfl⟩ := hrel
                      by_cases hkl : k < S
                      · try (exfalso; omega)
                        all_goals
                          have hc : w3.cell? ⟨w.heap.size, q + k, none⟩ = some (.int .u16 ((q : Int) + (k : Int))) := aft_cell HA.out (by omega)
                          go_wp2_with fail
                          go_round
                          case rel => exact ⟨k + 1, by omega, by go_num, by go_num⟩
                          case measure => simp [intOf]; omega
                      · have HK : Hid (k = S) := show k = S by omega
                        go_wp2_with fail
                        go_round
                        case rel => exact ⟨j + 1, q + k, by omega, by go_num, by go_num, show q + k = (j + 1) * S by rw [next_row, HQ.out, HK.out]⟩
                        case measure => simp [intOf]; omega
                · go_wp2_with fail
                  go_ret
                  exact ⟨rfl, HA.out.2.2.2.2⟩

/-! ### The inputs that the law lets by -/
theorem append_out (c s r v : Int) (w : World) (h : c < 0 ∨ (0 ≤ c ∧ s < 0) ∨ (0 ≤ c ∧ 0 ≤ s ∧ 65536 < c) ∨ (0 ≤ c ∧ 0 ≤ s ∧ c ≤ 65536 ∧ 65536 < s)) :
    Calls Try.prog 4 #[.int .i64 c, .int .i64 s, .int .i64 r, .int .u16 v] w fun e w' => e = .returned (.bool true) ∧ w' = w := by
  rcases h with h | ⟨h1, h2⟩ | ⟨h1, h2, h3⟩ | ⟨h1, h2, h3, h4⟩
  · have c1 : decide (c < 0) = true := by simpa using h
    go_enter Try.func4, Try.ntmps4
    go_wp2
    go_ret
    exact ⟨rfl, rfl⟩
  · have c1 : decide (c < 0) = false := by simp; omega
    have c2 : decide (s < 0) = true := by simpa using h2
    go_enter Try.func4, Try.ntmps4
    go_wp2
    go_ret
    exact ⟨rfl, rfl⟩
  · have c1 : decide (c < 0) = false := by simp; omega
    have c2 : decide (s < 0) = false := by simp; omega
    have c3 : decide (65536 < c) = true := by simpa using h3
    go_enter Try.func4, Try.ntmps4
    go_wp2
    go_ret
    exact ⟨rfl, rfl⟩
  · have c1 : decide (c < 0) = false := by simp; omega
    have c2 : decide (s < 0) = false := by simp; omega
    have c3 : decide (65536 < c) = false := by simp; omega
    go_enter Try.func4, Try.ntmps4
    go_wp2
    go_ret
    exact ⟨rfl, rfl⟩
theorem append_many (c s r v : Int) (w : World) (h1 : 0 ≤ c) (h2 : c ≤ 65536) (h3 : 1 ≤ s) (h4 : s ≤ 65536) (h5 : 65536 / s < c) :
    Calls Try.prog 4 #[.int .i64 c, .int .i64 s, .int .i64 r, .int .u16 v] w fun e w' => e = .returned (.bool true) ∧ w' = w := by
  have c1 : decide (c < 0) = false := by simp; omega
  have c2 : decide (s < 0) = false := by simp; omega
  have c3 : decide (65536 < c) = false := by simp; omega
  have c4 : decide (0 < s) = true := by simp; omega
  go_enter Try.func4, Try.ntmps4
  go_wp2
  go_ret
  exact ⟨rfl, rfl⟩
set_option maxHeartbeats 400000 in
theorem append_row (C S N : Nat) (r v : Int) (w : World) (hC : C ≤ 65536) (hS : S ≤ 65536) (hN : N ≤ 65536) (HN : Hid (N = C * S)) (hr : r < 0 ∨ (C : Int) ≤ r)
    (hq : (decide (0 < S) = false ∧ S ≤ 0) ∨ (decide ((0 : Int) < S) = true ∧ decide (65536 / (S : Int) < (C : Int)) = false ∧ 0 < S)) :
    Calls Try.prog 4 #[.int .i64 C, .int .i64 S, .int .i64 r, .int .u16 v] w fun e w' => e = .returned (.bool true) ∧ Below w.heap.size w w' := by
  have c1 : decide ((C : Int) < 0) = false := by simp
  have c2 : decide ((S : Int) < 0) = false := by simp
  have c3 : decide ((65536 : Int) < C) = false := by simp; omega
  rcases hr with hr | hr
  · have c4 : decide (r < 0) = true := by simpa using hr
    rcases hq with ⟨hq1, hq2⟩ | ⟨hq1, hq2, hq3⟩
    all_goals
      go_enter Try.func4, Try.ntmps4
      go_wp2_with fail
      refine (new_any C S N _ hC hS hN HN).mono ?_
      rintro e w1 ⟨rfl, r1, r2, r3⟩
      have HB : Hid (Below w.heap.size w w1) := r3
      clear r1 r2 r3
      go_wp2_with fail
      go_ret
      exact ⟨rfl, HB.out⟩
  · have c4 : decide (r < 0) = false := by simp; omega
    have c5 : decide ((C : Int) ≤ r) = true := by simpa using hr
    rcases hq with ⟨hq1, hq2⟩ | ⟨hq1, hq2, hq3⟩
    all_goals
      go_enter Try.func4, Try.ntmps4
      go_wp2_with fail
      refine (new_any C S N _ hC hS hN HN).mono ?_
      rintro e w1 ⟨rfl, r1, r2, r3⟩
      have HB : Hid (Below w.heap.size w w1) := r3
      clear r1 r2 r3
      go_wp2_with fail
      go_ret
      exact ⟨rfl, HB.out⟩

/-- The law, at every input. -/
theorem append_any (c s r v : Int) (w : World) (hv0 : 0 ≤ v) (hv1 : v ≤ 65535) :
    Calls Try.prog 4 #[.int .i64 c, .int .i64 s, .int .i64 r, .int .u16 v] w fun e w' => e = .returned (.bool true) ∧ Below w.heap.size w w' := by
  by_cases h : c < 0 ∨ (0 ≤ c ∧ s < 0) ∨ (0 ≤ c ∧ 0 ≤ s ∧ 65536 < c) ∨ (0 ≤ c ∧ 0 ≤ s ∧ c ≤ 65536 ∧ 65536 < s)
  · exact (append_out c s r v w h).mono fun e w' ⟨he, hw⟩ => ⟨he, hw ▸ Below.refl _ _⟩
  obtain ⟨C, rfl⟩ := Int.eq_ofNat_of_zero_le (show 0 ≤ c by omega)
  obtain ⟨S, rfl⟩ := Int.eq_ofNat_of_zero_le (show 0 ≤ s by omega)
  have hC : C ≤ 65536 := by omega
  have hS : S ≤ 65536 := by omega
  by_cases h5 : 0 < S ∧ 65536 / (S : Int) < (C : Int)
  · exact (append_many C S r v w (by omega) (by omega) (by omega) (by omega) h5.2).mono fun e w' ⟨he, hw⟩ => ⟨he, hw ▸ Below.refl _ _⟩
  have hq : (decide (0 < S) = false ∧ S ≤ 0) ∨ (decide ((0 : Int) < S) = true ∧ decide (65536 / (S : Int) < (C : Int)) = false ∧ 0 < S) := by
    by_cases h0 : 0 < S
    · exact .inr ⟨by simp; omega, by simpa using fun g => h5 ⟨h0, g⟩, h0⟩
    · exact .inl ⟨by simpa using h0, by omega⟩
  have hN : C * S ≤ 65536 := by
    by_cases h0 : 0 < S
    · exact prod_bd h0 (fun g => h5 ⟨h0, g⟩)
    · have : S = 0 := by omega
      subst this; simp
  by_cases hr : r < 0 ∨ (C : Int) ≤ r
  · exact append_row C S (C * S) r v w hC hS hN rfl hr hq
  · obtain ⟨R, rfl⟩ := Int.eq_ofNat_of_zero_le (show 0 ≤ r by omega)
    exact append_main C S (C * S) R (R * S) v w hC hS hN rfl (by omega) rfl hv0 hv1 hq
end Go.Proofs.Qxb6628991a
