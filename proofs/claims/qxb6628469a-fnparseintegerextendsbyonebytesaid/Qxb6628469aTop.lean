/-
  THE COPY THAT BOTH LAWS MAKE OF THEIR INPUT. By an AI agent.
-/
import Derived.Test.Qxb6628469aSaid
import Derived.Laws.CopyOwn
import Derived.Deep.OwnRows
namespace Go.Proofs.Qxb6628469a
open Go.RowKit
set_option linter.unusedVariables false

theorem Try.info5 : (Try.prog.info? 5).map (fun i => (i.zero, i.size, i.bytes)) = some (some (.int .u8 0), 1, 1) := by kernel_rfl
theorem Try.size5 : (Try.prog.info? 5).map (·.size) = some 1 := by kernel_rfl

theorem bytes3_yes (a : Option Addr) (len cap : Nat) (w : World) (h : len ≤ 1048576) :
    Calls Try.prog 5 #[.slice a len cap] w fun e w' => e = .returned (.bool true) ∧ w' = w := by
  go_enter Try.func5, Try.ntmps5
  go_wp2
  go_ret
  exact ⟨rfl, rfl⟩
theorem bytes3_no (a : Option Addr) (len cap : Nat) (w : World) (h : 1048576 < len) :
    Calls Try.prog 5 #[.slice a len cap] w fun e w' => e = .returned (.bool false) ∧ w' = w := by
  go_enter Try.func5, Try.ntmps5
  go_wp2
  go_ret
  exact ⟨rfl, rfl⟩
theorem bytes4_yes (a : Option Addr) (len cap : Nat) (w : World) (h : len ≤ 1048576) :
    Calls Try.prog 8 #[.slice a len cap] w fun e w' => e = .returned (.bool true) ∧ w' = w := by
  go_enter Try.func8, Try.ntmps8
  go_wp2
  go_ret
  exact ⟨rfl, rfl⟩
theorem bytes4_no (a : Option Addr) (len cap : Nat) (w : World) (h : 1048576 < len) :
    Calls Try.prog 8 #[.slice a len cap] w fun e w' => e = .returned (.bool false) ∧ w' = w := by
  go_enter Try.func8, Try.ntmps8
  go_wp2
  go_ret
  exact ⟨rfl, rfl⟩

theorem top3_long (a : Option Addr) (len cap : Nat) (w : World) (h : 65536 < len) :
    Calls Try.prog 3 #[.slice a len cap] w fun e w' => e = .returned (.bool true) ∧ w' = w := by
  by_cases h2 : 1048576 < len
  · go_enter Try.func3, Try.ntmps3
    go_wp2_with (go_at_call 5; refine (bytes3_no _ _ _ _ h2).mono ?_; rintro e w' ⟨rfl, rfl⟩)
    go_ret
    exact ⟨rfl, rfl⟩
  · go_enter Try.func3, Try.ntmps3
    go_wp2_with (go_at_call 5; refine (bytes3_yes _ _ _ _ (by omega)).mono ?_; rintro e w' ⟨rfl, rfl⟩)
    go_ret
    exact ⟨rfl, rfl⟩

theorem ret_eq {a b : Bool} {x y : Int} (h1 : a = b) (h2 : x = y) : (Ending.returned (.bool (if (a == b) = true then (x == y) else false)) : Ending) = .returned (.bool true) := by
  subst h1; subst h2; simp

set_option maxHeartbeats 400000 in
theorem top3_nil (w : World) :
    Calls Try.prog 3 #[.slice none 0 0] w fun e w' => e = .returned (.bool true) ∧ w' = w := by
  go_enter Try.func3, Try.ntmps3
  go_wp2_with fail
  refine (bytes3_yes _ _ _ _ (by omega)).mono ?_
  rintro e w' ⟨rfl, rfl⟩
  go_wp2_with fail
  refine (model_said _ _ _ [] _ rfl (by simp) (by unfold maxLen; omega) (.inl rfl) (by simp)).mono ?_
  rintro e w' ⟨⟨v, ok, rfl, h1⟩, rfl⟩
  have H1 : Hid (Plain.pint [] v ok) := h1
  clear h1
  go_wp2_with fail
  refine (parse_said _ _ _ [] _ rfl (by simp) (by unfold maxLen; omega) (.inl rfl) (by simp)).mono ?_
  rintro e w' ⟨⟨v2, ok2, rfl, h2⟩, rfl⟩
  obtain ⟨rfl, rfl⟩ := Plain.pint_fun H1.out h2
  go_wp2_with fail
  go_ret
  exact ⟨rfl, rfl⟩

/-- The cells of the copy. -/
def cellsOf (zs : List Int) : List Value := zs.map (Value.int .u8)
theorem cells_len (zs : List Int) : (cellsOf zs).length = zs.length := by simp [cellsOf]
theorem src_cells {w : World} {x : Addr} {zs : List Int} (hcell : ∀ i, i < zs.length → w.cell? (x.add i) = some (.int .u8 (zs.getD i 0))) (o : Obj) :
    ∀ j v, (cellsOf zs)[j]? = some v → (w.alloc o).cell? (x.add j) = some v := by
  intro j v hv
  have hj : j < zs.length := by
    have := (List.getElem?_eq_some_iff.1 hv).1
    rwa [cells_len] at this
  have h1 := hcell j hj
  have e : v = .int .u8 (zs.getD j 0) := by
    simp [cellsOf, List.getElem?_eq_getElem hj] at hv
    simp [List.getElem?_eq_getElem hj, hv]
  rw [e]
  exact cell_later ((Below.refl _ w).alloc (Nat.le_refl _) o) h1

/-- WHAT 'zzc := make([]byte, len(b)); copy(zzc, b)' LEAVES. -/
theorem copy_ran (w : World) (x : Addr) (len cap : Nat) (zs : List Int) (hz : zs.length = len) (hcell : ∀ i, i < zs.length → w.cell? (x.add i) = some (.int .u8 (zs.getD i 0))) :
    ∃ W2 : World, (Builtin.copy_ #[22, 22] 3 #[.slice (some ⟨w.heap.size, 0, none⟩) len len, .slice (some x) len cap]).run Try.prog (w.alloc (.cells (madeCells #[.int .u8 0] len) 5)) = .ok (.int .i64 len) W2 ∧
      Hid (Lies W2 (some ⟨w.heap.size, 0, none⟩) zs) ∧ Hid (Below w.heap.size w W2) := by
  have h1 := run_copy_row (P := Try.prog) (w.alloc (.cells (madeCells #[.int .u8 0] len) 5)) 22 22 3 5 w.heap.size 0 len len x len cap (madeCells #[.int .u8 0] len) 5 (cellsOf zs)
    Try.underlying22 Try.size5 (heap_alloc_new _ _) (by rw [cells_len, hz]; simp) (src_cells hcell _) (by rw [cells_len, hz, size_madeCells]; omega)
    (fun v hv => by simp [cellsOf] at hv; obtain ⟨_, _, rfl⟩ := hv; rfl)
  have e : ((madeCells #[.int .u8 0] len).toList.take 0 ++ cellsOf zs ++ (madeCells #[.int .u8 0] len).toList.drop (0 + (cellsOf zs).length)).toArray = (cellsOf zs).toArray := by
    rw [List.drop_eq_nil_of_le (by rw [cells_len, Array.length_toList, size_madeCells]; omega)]
    simp
  rw [e, cells_len, hz] at h1
  refine ⟨_, h1, ?_, below_setRow ((Below.refl _ _).alloc (Nat.le_refl _) _) (Nat.le_refl _) _⟩
  refine .inr ⟨w.heap.size, 0, rfl, fun i hi => ?_⟩
  have h2 := setRow_heap (w.alloc (.cells (madeCells #[.int .u8 0] len) 5)) w.heap.size _ (cellsOf zs).toArray _ _ (heap_alloc_new _ _)
  rw [Nat.zero_add, cell_of_row _ _ _ _ _ _ h2]
  simp [cellsOf, List.getElem?_eq_getElem hi]

set_option maxHeartbeats 400000 in
theorem top3_some (x : Addr) (len cap : Nat) (zs : List Int) (w : World) (hlen : len ≤ 65536) (hcap : len ≤ cap) (hm : cap ≤ maxLen) (hz : Hid (zs.length = len))
    (hcell : ∀ i, i < zs.length → w.cell? (x.add i) = some (.int .u8 (zs.getD i 0))) (hb : ∀ c ∈ zs, 0 ≤ c ∧ c ≤ 255) :
    Calls Try.prog 3 #[.slice (some x) len cap] w fun e w' => e = .returned (.bool true) ∧ Below w.heap.size w w' := by
  have HB : Hid (∀ c ∈ zs, 0 ≤ c ∧ c ≤ 255) := hb
  obtain ⟨W2, hcp, HL, HW⟩ := copy_ran w x len cap zs hz.out hcell
  clear hcell hb
  unfold maxLen at hm
  have hmk := Go.run_make_row' (P := Try.prog) 22 5 (.int .u8 0) 1 Try.underlying22 Try.info5 rfl .i64 .i64 len (by omega) (by omega)
  have hne := fun w' => run_neq_slice_nil_any (P := Try.prog) w' 22 5 (some x) len cap 0 0 Try.underlying22
  go_enter Try.func3, Try.ntmps3
  go_wp2_with fail
  refine (bytes3_yes _ _ _ _ (by omega)).mono ?_
  rintro e w' ⟨rfl, hw1⟩
  have hw1 := hw1.symm
  subst hw1
  go_wp2_with fail
  refine (model_said _ _ _ zs _ hz.out (by omega) (by unfold maxLen; omega) HL.out HB.out).mono ?_
  rintro e w' ⟨⟨v, ok, rfl, h1⟩, hw1⟩
  have hw1 := hw1.symm
  subst hw1
  have H1 : Hid (Plain.pint zs v ok) := h1
  clear h1
  go_wp2_with fail
  refine (parse_said _ _ _ zs _ hz.out (by omega) (by unfold maxLen; omega) HL.out HB.out).mono ?_
  rintro e w' ⟨⟨v2, ok2, rfl, h2⟩, hw1⟩
  have hw1 := hw1.symm
  subst hw1
  obtain ⟨rfl, rfl⟩ := Plain.pint_fun H1.out h2
  go_wp2_with fail
  go_ret
  exact ⟨rfl, HW.out⟩
end Go.Proofs.Qxb6628469a
