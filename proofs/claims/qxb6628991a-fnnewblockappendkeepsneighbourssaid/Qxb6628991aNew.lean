/-
  THE WALK OF sample.NewBlock (function 5). By an AI agent.
-/
import Derived.Test.Qxb6628991aRows
import Derived.WalkKit
import Derived.WalkSpells
import Derived.WalkLawsBesides
import Derived.Deep.OwnRows
namespace Go.Proofs.Qxb6628991a
open Go.RowKit
set_option linter.unusedVariables false

theorem Try.info24 : (Try.prog.info? 24).map (fun i => (i.zero, i.size, i.bytes)) = some (some (.slice none 0 0), 1, 24) := by kernel_rfl
theorem Try.info25 : (Try.prog.info? 25).map (fun i => (i.zero, i.size, i.bytes)) = some (some (.int .u16 0), 1, 2) := by kernel_rfl

/-- Row j of a block over the array at B: its length is its capacity. -/
def rowAt (B S j : Nat) : Value := .slice (some ⟨B, j * S, none⟩) S S

theorem Try.elem24 : Try.prog.underlying 24 = some (.slice (Try.prog.elem 24)) := by kernel_rfl
theorem Try.sizeOf24 (w : World) : (sizeOf (Try.prog.elem 24)).run Try.prog w = .ok 1 w := by kernel_rfl

/-- 'all[j*samples : (j+1)*samples : (j+1)*samples]'. -/
theorem slice_row (B S N k : Nat) (h : (k + 1) * S ≤ N) (w : World) :
    (Instr.slice 24 (.slice (some ⟨B, 0, none⟩) N N) (some (.int .i64 ((k : Int) * (S : Int)))) (some (.int .i64 (((k : Int) + 1) * (S : Int)))) (some (.int .i64 (((k : Int) + 1) * (S : Int))))).run Try.prog w = .ok (rowAt B S k) w := by
  have e1 : (k : Int) * (S : Int) = ((k * S : Nat) : Int) := (Int.natCast_mul k S).symm
  have e2 : ((k : Int) + 1) * (S : Int) = (((k + 1) * S : Nat) : Int) := by rw [Int.natCast_mul]; rfl
  have e3 : (k + 1) * S = k * S + S := Nat.succ_mul k S
  rw [e1, e2]
  have hr := run_slice_lhm (P := Try.prog) (w := w) 24 (some ⟨B, 0, none⟩) N N Try.elem24 .i64 .i64 .i64 ((k * S : Nat) : Int) (((k + 1) * S : Nat) : Int) (((k + 1) * S : Nat) : Int) (by omega) (by omega) (by omega) (by omega)
  rw [hr, Try.sizeOf24]
  simp only [Result.andThen, Int.toNat_natCast, sliced, rowAt]
  congr 1
  by_cases hS : S = 0
  · subst hS; simp
  · rw [if_neg (by omega)]
    simp [Addr.add]
    omega

/-- What the first k rounds of NewBlock's loop have laid. -/
def part (B S k j : Nat) : Value := if j < k then rowAt B S j else .slice none 0 0
theorem part_next (B S k j : Nat) : (if j = k then rowAt B S k else part B S k j) = part B S (k + 1) j := by
  unfold part
  by_cases h : j = k
  · subst h; simp
  · rw [if_neg h]
    by_cases h2 : j < k
    · rw [if_pos h2, if_pos (by omega)]
    · rw [if_neg h2, if_neg (by omega)]

theorem mul_bd {j C S N : Nat} (HN : N = C * S) (h : j < C) : (j + 1) * S ≤ N := by
  rw [HN]; exact Nat.mul_le_mul_right S h

set_option maxHeartbeats 400000 in
theorem new_any (C S N : Nat) (w : World) (hC : C ≤ 65536) (hS : S ≤ 65536) (hN : N ≤ 65536) (HN : Hid (N = C * S)) :
    Calls Try.prog 5 #[.int .i64 C, .int .i64 S] w fun e w' => e = .returned (.slice (some ⟨w.heap.size + 1, 0, none⟩) C C) ∧
      w'.rowIs w.heap.size 25 N (fun _ => .int .u16 0) ∧ w'.rowIs (w.heap.size + 1) 24 C (rowAt w.heap.size S) ∧ Below w.heap.size w w' := by
  have hmk := Go.run_make_row' (P := Try.prog) 24 25 (.int .u16 0) 2 Try.underlying24 Try.info25 rfl .i64 .i64 N (by omega) (by omega)
  have e : (N : Int) = (C : Int) * (S : Int) := by rw [HN.out]; exact Int.natCast_mul C S
  rw [e] at hmk
  have hmk2 := Go.run_make_row' (P := Try.prog) 22 24 (.slice none 0 0) 24 Try.underlying22 Try.info24 rfl .i64 .i64 C (by omega) (by omega)
  have hCS : (0 : Int) ≤ (C : Int) * (S : Int) ∧ (C : Int) * (S : Int) ≤ 65536 := by rw [← e]; omega
  clear e
  have r1 := (World.rowIs_made w (.int .u16 0) N 25).alloc (.cells (madeCells #[.slice none 0 0] C) 24)
  have r2 := World.rowIs_made (w.alloc (.cells (madeCells #[.int .u16 0] N) 25)) (.slice none 0 0) C 24
  have hbel : Below w.heap.size w ((w.alloc (.cells (madeCells #[.int .u16 0] N) 25)).alloc (.cells (madeCells #[.slice none 0 0] C) 24)) := ((Below.refl _ w).alloc (Nat.le_refl _) _).alloc (by simp) _
  have R1 : Hid (((w.alloc (.cells (madeCells #[.int .u16 0] N) 25)).alloc (.cells (madeCells #[.slice none 0 0] C) 24)).rowIs w.heap.size 25 N (fun _ => .int .u16 0)) := r1
  have R2 : Hid (((w.alloc (.cells (madeCells #[.int .u16 0] N) 25)).alloc (.cells (madeCells #[.slice none 0 0] C) 24)).rowIs (w.heap.size + 1) 24 C (fun _ => .slice none 0 0)) := by
    show World.rowIs _ _ _ _ _
    simpa using r2
  have HB : Hid (Below w.heap.size w ((w.alloc (.cells (madeCells #[.int .u16 0] N) 25)).alloc (.cells (madeCells #[.slice none 0 0] C) 24))) := hbel
  clear r1 r2 hbel
  go_enter Try.func5, Try.ntmps5
  go_wp2
  go_loopw [16] (fun i wr => ∃ k : Nat, k ≤ C ∧ i = .int .i64 k ∧ Hid (wr.rowIs w.heap.size 25 N (fun _ => .int .u16 0)) ∧ Hid (wr.rowIs (w.heap.size + 1) 24 C (part w.heap.size S k)) ∧ Hid (Below w.heap.size w wr)) (fun i _ => C - (intOf i).toNat)
  case atStart => exact ⟨0, Nat.zero_le _, rfl, R1, R2.out.congr (fun i _ => by simp [part]), HB⟩
  case round =>
    obtain ⟨k, hk, rfl, H1, H2, H3⟩ := hrel
    by_cases hlt : k < C
    · have hb := mul_bd HN.out hlt
      have hsl := slice_row w.heap.size S N k hb
      simp only [rowAt] at hsl
      have hc := H2.out.cell hlt
      rw [show part w.heap.size S k k = .slice none 0 0 by simp [part]] at hc
      have hf := H2.out.frozen k
      have hm1 : (0 : Int) ≤ (k : Int) * (S : Int) ∧ (k : Int) * (S : Int) ≤ 65536 := by
        have e1 : (k : Int) * (S : Int) = ((k * S : Nat) : Int) := (Int.natCast_mul k S).symm
        have e3 : (k + 1) * S = k * S + S := Nat.succ_mul k S
        rw [e1]; omega
      have hm2 : (0 : Int) ≤ ((k : Int) + 1) * (S : Int) ∧ ((k : Int) + 1) * (S : Int) ≤ 65536 := by
        have e2 : ((k : Int) + 1) * (S : Int) = (((k + 1) * S : Nat) : Int) := by rw [Int.natCast_mul]; rfl
        rw [e2]; omega
      clear hb
      go_wp2
      go_roundw
      case rel =>
        refine ⟨k + 1, by omega, by go_num, H1.out.setOther (by simp) _, (H2.out.set k _).congr (fun i _ => part_next w.heap.size S k i), H3.out.setCell (by simp) _⟩
      case measure => simp [intOf]; omega
    · go_wp2
      go_ret
      exact ⟨rfl, H1.out, H2.out.congr (fun i hi => by simp [part]; omega), H3.out⟩
end Go.Proofs.Qxb6628991a
