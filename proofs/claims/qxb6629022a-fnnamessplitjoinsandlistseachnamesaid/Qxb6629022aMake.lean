/-
  THE WALKS OF zzb1ToClass (10), zzb1ToClasses (7) and fund.Names (8). By an AI agent.
-/
import Derived.Test.Qxb6629022aRead9
namespace Go.Proofs.Qxb6629022a
open Go.RowKit
set_option linter.unusedVariables false

/-- A fee of no name and the zero figure. -/
def zeroCells : Array Value := #[.string ByteArray.empty, .int .i64 0, .int .i32 0, .pointer none, .string ByteArray.empty]
def zeroFee : Value := .agg zeroCells
/-- l such fees. -/
def feeCells (l : Nat) : Array Value := madeCells zeroCells (l * 5)
theorem feeCells_size (l : Nat) : (feeCells l).size = l * 5 := size_madeCells _ _
theorem Try.info42 : (Try.prog.info? 42).map (fun i => (i.zero, i.size, i.bytes)) = some (some zeroFee, 5, 56) := by kernel_rfl

/-- zzb1ToClass where the fees are nil. -/
theorem class_nil (nm cd : ByteArray) (l c : Nat) (w : World) :
    Calls Try.prog 10 #[.agg #[.string nm, .string cd, .slice none l c]] w fun e w' => (∃ f l c, e = .returned (.agg #[.string nm, .string cd, .slice f l c])) ∧ Below w.heap.size w w' := by
  have hne := fun w' => run_neq_slice_nil_any (P := Try.prog) w' 27 9 none l c 0 0 Try.underlying27
  go_enter Try.func10, Try.ntmps10
  go_wp2
  exact bodyPost_ret (v := .agg #[.string nm, .string cd, .slice none 0 0]) (by simp [results, Try.results10, go_sem]) rfl ⟨⟨_, _, _, rfl⟩, ((Below.refl _ _).alloc (Nat.le_refl _) _).alloc (by simp) _⟩

/-- 'make([]Fee, l)'. -/
theorem make_fees (l : Nat) (h : l ≤ 1048576) (w : World) :
    (Instr.makeSlice 32 (.int .i64 (l : Int)) (.int .i64 (l : Int))).run Try.prog w = .ok (.slice (some ⟨w.heap.size, 0, none⟩) l l) (w.alloc (.cells (feeCells l) 42)) := by
  obtain ⟨i, hi, hz0, hz1, hz2⟩ := info_parts Try.info42
  have hr := run_make (P := Try.prog) w 32 42 i zeroFee Try.underlying32 hi hz0 .i64 .i64 l l (by omega) (Int.le_refl _) (by rw [hz2]; omega) (by omega)
  rw [hz1] at hr
  rw [hr]
  simp [feeCells, zeroFee, Value.cells]

theorem row_of_made (w : World) (c : Array Value) (t : TypeId) : ∃ f, (w.alloc (.cells c t)).rowIs w.heap.size t c.size f :=
  ⟨fun i => c.getD i undef, World.rowIs_alloc w c t _ (fun i hi => by simp [hi])⟩

set_option maxHeartbeats 1000000 in
theorem class_some (nm cd : ByteArray) (x : Addr) (l c : Nat) (w : World) (hl : l ≤ 1048576) (H : Hid (Fees w (some x) l)) :
    Calls Try.prog 10 #[.agg #[.string nm, .string cd, .slice (some x) l c]] w fun e w' => (∃ f l c, e = .returned (.agg #[.string nm, .string cd, .slice f l c])) ∧ Below w.heap.size w w' := by
  have hne := fun w' => run_neq_slice_nil_any (P := Try.prog) w' 27 9 (some x) l c 0 0 Try.underlying27
  have hmk := make_fees l hl
  have W2def : ∃ W2, W2 = ((w.alloc (.cells #[.string nm, .string cd, .slice (some x) l c] 30)).alloc (.cells #[.string ⟨#[]⟩, .string ⟨#[]⟩, .slice none 0 0] 34)).alloc (.cells (feeCells l) 42) := ⟨_, rfl⟩
  obtain ⟨W2, hW2⟩ := W2def
  have b0 : Below w.heap.size w W2 := by
    rw [hW2]; exact (((Below.refl _ w).alloc (Nat.le_refl _) _).alloc (by simp) _).alloc (by simp; omega) _
  obtain ⟨f0, r0⟩ : ∃ f, W2.rowIs (w.heap.size + 1 + 1) 42 (l * 5) f := by
    obtain ⟨f, hf⟩ := row_of_made ((w.alloc (.cells #[.string nm, .string cd, .slice (some x) l c] 30)).alloc (.cells #[.string ⟨#[]⟩, .string ⟨#[]⟩, .slice none 0 0] 34)) (feeCells l) 42
    rw [feeCells_size] at hf
    exact ⟨f, by rw [hW2]; simpa using hf⟩
  have B0 : Hid (Below w.heap.size w W2) := b0
  have R0 : Hid (W2.rowIs (w.heap.size + 1 + 1) 42 (l * 5) f0) := r0
  clear b0 r0
  have C : Hid (W2.cell? ⟨w.heap.size, 0, none⟩ = some (.string nm) ∧ W2.cell? ⟨w.heap.size, 1, none⟩ = some (.string cd) ∧ W2.cell? ⟨w.heap.size, 2, none⟩ = some (.slice (some x) l c) ∧
      W2.cell? ⟨w.heap.size + 1, 0, none⟩ = some (.string ⟨#[]⟩) ∧ W2.cell? ⟨w.heap.size + 1, 1, none⟩ = some (.string ⟨#[]⟩) ∧ W2.cell? ⟨w.heap.size + 1, 2, none⟩ = some (.slice none 0 0) ∧ ∀ k, W2.frozen? ⟨w.heap.size + 1, k, none⟩ = false) := by
    rw [hW2]
    refine ⟨by go_simp, by go_simp, by go_simp, by go_simp, by go_simp, by go_simp, fun k => by go_simp⟩
  go_enter Try.func10, Try.ntmps10
  go_wp2
  rw [← hW2]
  clear hW2 hmk hne
  go_loopw [4] (fun i wr => ∃ j : Nat, j ≤ l ∧ i = .int .i64 j ∧ Hid (∃ f, wr.rowIs (w.heap.size + 1 + 1) 42 (l * 5) f) ∧ Hid (Below (w.heap.size + 1 + 1) W2 wr)) (fun i _ => l - (intOf i).toNat)
  case atStart => exact ⟨0, Nat.zero_le _, rfl, ⟨_, R0.out⟩, Below.refl _ _⟩
  case round =>
    obtain ⟨j, hj, rfl, HR, HW⟩ := hrel
    obtain ⟨f, hrow⟩ := HR.out
    have hc2 : wr.cell? ⟨w.heap.size, 2, none⟩ = some (.slice (some x) l c) := by rw [HW.out.cell (by simp; omega)]; exact C.out.2.2.1
    by_cases hlt : j < l
    · obtain ⟨fb, fo, fs, hx, hs⟩ : ∃ fb fo fs, x = ⟨fb, fo, none⟩ ∧ w.cell? ⟨fb, fo + j, none⟩ = some (.string fs) := by
        rcases H.out with h | ⟨fb, fo, hx, hs⟩
        · omega
        · obtain ⟨fs, hs⟩ := hs j hlt
          exact ⟨fb, fo, fs, by cases hx; rfl, hs⟩
      have hfb : fb < w.heap.size := cell_lt hs
      have hs2 : wr.cell? ⟨fb, fo + j, none⟩ = some (.string fs) := by rw [HW.out.cell (by simp; omega), B0.out.cell (by simpa using hfb)]; exact hs
      have hd := hrow.cell (i := j * 5) (by omega)
      have hf := hrow.frozen (j * 5)
      have HROW : Hid (wr.rowIs (w.heap.size + 1 + 1) 42 (l * 5) f) := hrow
      subst hx
      clear hs hrow
      go_wp2
      go_roundw
      case rel => exact ⟨j + 1, by omega, by go_num, ⟨_, HROW.out.set (j * 5) _⟩, HW.out.setCell (by simp) _⟩
      case measure => simp [intOf]; omega
    · have hc0 : wr.cell? ⟨w.heap.size, 0, none⟩ = some (.string nm) := by rw [HW.out.cell (by simp; omega)]; exact C.out.1
      have hc1 : wr.cell? ⟨w.heap.size, 1, none⟩ = some (.string cd) := by rw [HW.out.cell (by simp; omega)]; exact C.out.2.1
      have hd0 : wr.cell? ⟨w.heap.size + 1, 0, none⟩ = some (.string ⟨#[]⟩) := by rw [HW.out.cell (by simp)]; exact C.out.2.2.2.1
      have hd1 : wr.cell? ⟨w.heap.size + 1, 1, none⟩ = some (.string ⟨#[]⟩) := by rw [HW.out.cell (by simp)]; exact C.out.2.2.2.2.1
      have hd2 : wr.cell? ⟨w.heap.size + 1, 2, none⟩ = some (.slice none 0 0) := by rw [HW.out.cell (by simp)]; exact C.out.2.2.2.2.2.1
      have hf : ∀ k, wr.frozen? ⟨w.heap.size + 1, k, none⟩ = false := fun k => by rw [HW.out.frozen (by simp)]; exact C.out.2.2.2.2.2.2 k
      have hf0 := hf 0
      have hf1 := hf 1
      have hf2 := hf 2
      have HB2 : Hid (Below w.heap.size w wr) := B0.out.trans (HW.out.mono (by omega))
      clear hrow hf
      go_wp2
      refine bodyPost_ret (v := .agg #[.string nm, .string cd, .slice (some ⟨w.heap.size + 1 + 1, 0, none⟩) l l]) ?_ rfl ⟨⟨_, _, _, rfl⟩, ?_⟩
      · simp [results, Try.results10, go_sem, hd0, hd1, hd2]
      · exact ((HB2.out.setCell (by simp) _).setCell (by simp) _).setCell (by simp) _

/-- zzb1ToClass, whatever the fees. -/
theorem class_any (nm cd : ByteArray) (f : Option Addr) (l c : Nat) (w : World) (hl : l ≤ 1048576) (H : Fees w f l) :
    Calls Try.prog 10 #[.agg #[.string nm, .string cd, .slice f l c]] w fun e w' => (∃ f l c, e = .returned (.agg #[.string nm, .string cd, .slice f l c])) ∧ Below w.heap.size w w' := by
  cases f with
  | none => exact class_nil nm cd l c w
  | some x => exact class_some nm cd x l c w hl H

/-! ### zzb1ToClasses -/
/-- n structs of three cells each, as they lie in a result: nothing is asked of the fees. -/
def Row3 (w : World) (b o n : Nat) (Nm : Nat → ByteArray) : Prop :=
  ∀ i, i < n → w.cell? ⟨b, o + i * 3, none⟩ = some (.string (Nm i)) ∧ (∃ s : ByteArray, w.cell? ⟨b, o + i * 3 + 1, none⟩ = some (.string s)) ∧
    ∃ f l c, w.cell? ⟨b, o + i * 3 + 2, none⟩ = some (.slice f l c)
/-- The block that zzb1ToClasses fills, k structs in. -/
def Fills (w : World) (b n k : Nat) (Nm : Nat → ByteArray) : Prop :=
  ∃ g, w.rowIs b 34 (n * 3) g ∧ ∀ i, i < k → g (i * 3) = .string (Nm i) ∧ (∃ s : ByteArray, g (i * 3 + 1) = .string s) ∧ ∃ f l c, g (i * 3 + 2) = .slice f l c
theorem fills_row {w : World} {b n : Nat} {Nm : Nat → ByteArray} (h : Fills w b n n Nm) : Row3 w b 0 n Nm := by
  obtain ⟨g, hr, hg⟩ := h
  intro i hi
  obtain ⟨h0, ⟨s, h1⟩, f, l, c, h2⟩ := hg i hi
  rw [Nat.zero_add]
  exact ⟨by rw [hr.cell (by omega), h0], ⟨s, by rw [hr.cell (by omega), h1]⟩, f, l, c, by rw [hr.cell (by omega), h2]⟩
theorem fills_next {w : World} {b n k : Nat} {Nm : Nat → ByteArray} (h : Fills w b n k Nm) (s : ByteArray) (f : Option Addr) (l c : Nat) :
    Fills (((w.setCell ⟨b, k * 3, none⟩ (.string (Nm k))).setCell ⟨b, k * 3 + 1, none⟩ (.string s)).setCell ⟨b, k * 3 + 2, none⟩ (.slice f l c)) b n (k + 1) Nm := by
  obtain ⟨g, hr, hg⟩ := h
  refine ⟨_, ((hr.set (k * 3) _).set (k * 3 + 1) _).set (k * 3 + 2) _, fun i hi => ?_⟩
  by_cases e : i = k
  · subst e
    refine ⟨?_, ⟨s, ?_⟩, f, l, c, ?_⟩
    · rw [if_neg (by omega), if_neg (by omega), if_pos rfl]
    · rw [if_neg (by omega), if_pos rfl]
    · rw [if_pos rfl]
  · obtain ⟨h0, ⟨s', h1⟩, f', l', c', h2⟩ := hg i (by omega)
    refine ⟨?_, ⟨s', ?_⟩, f', l', c', ?_⟩
    · rw [if_neg (by omega), if_neg (by omega), if_neg (by omega), h0]
    · rw [if_neg (by omega), if_neg (by omega), if_neg (by omega), h1]
    · rw [if_neg (by omega), if_neg (by omega), if_neg (by omega), h2]
theorem fills_kept {w w' : World} {b n k : Nat} {Nm : Nat → ByteArray} (h : Fills w b n k Nm) (hb : Below w.heap.size w w') : Fills w' b n k Nm := by
  obtain ⟨g, hr, hg⟩ := h
  exact ⟨g, hr.of_block (hb.block b hr.lt), hg⟩

def zeroClassCells : Array Value := #[.string ByteArray.empty, .string ByteArray.empty, .slice none 0 0]
def zeroClass : Value := .agg zeroClassCells
theorem Try.info34 : (Try.prog.info? 34).map (fun i => (i.zero, i.size, i.bytes)) = some (some zeroClass, 3, 56) := by kernel_rfl
/-- n classes of no name. -/
def classCells (n : Nat) : Array Value := madeCells zeroClassCells (n * 3)
theorem classCells_size (n : Nat) : (classCells n).size = n * 3 := size_madeCells _ _
theorem make_classes (n : Nat) (h : n ≤ 2097152) (w : World) :
    (Instr.makeSlice 25 (.int .i64 (n : Int)) (.int .i64 (n : Int))).run Try.prog w = .ok (.slice (some ⟨w.heap.size, 0, none⟩) n n) (w.alloc (.cells (classCells n) 34)) := by
  obtain ⟨i, hi, hz0, hz1, hz2⟩ := info_parts Try.info34
  have hr := run_make (P := Try.prog) w 25 34 i zeroClass Try.underlying25 hi hz0 .i64 .i64 n n (by omega) (Int.le_refl _) (by rw [hz2]; omega) (by omega)
  rw [hz1] at hr
  rw [hr]
  simp [classCells, zeroClass, Value.cells]
theorem fills_made (w : World) (n : Nat) (Nm : Nat → ByteArray) : Fills (w.alloc (.cells (classCells n) 34)) w.heap.size n 0 Nm := by
  obtain ⟨f, hf⟩ := row_of_made w (classCells n) 34
  rw [classCells_size] at hf
  exact ⟨f, hf, fun i hi => absurd hi (Nat.not_lt_zero i)⟩

theorem classes_nil (l c : Nat) (w : World) :
    Calls Try.prog 7 #[.slice none l c] w fun e w' => e = .returned (.slice none 0 0) ∧ w' = w := by
  have hne := fun w' => Lib.run_eql_slice_nil (P := Try.prog) w' 22 30 none l c 0 0 Try.underlying22
  go_enter Try.func7, Try.ntmps7
  go_wp2
  go_ret
  exact ⟨rfl, rfl⟩

theorem fees_kept {w w' : World} {f : Option Addr} {l : Nat} (h : Fees w f l) (hb : Below w.heap.size w w') : Fees w' f l := by
  rcases h with h | ⟨b, o, rfl, hs⟩
  · exact .inl h
  · refine .inr ⟨b, o, rfl, fun j hj => ?_⟩
    obtain ⟨s, hs⟩ := hs j hj
    exact ⟨s, by rw [hb.cell (cell_lt hs)]; exact hs⟩

set_option maxHeartbeats 1000000 in
theorem classes_some (x : Addr) (b o n cap : Nat) (HA : Hid (n = 0 ∨ x = ⟨b, o, none⟩)) (Nm : Nat → ByteArray) (w : World) (hn : n ≤ 1048576) (H : Hid (Cls w b o n Nm)) (HS : Hid (Short w b o n)) :
    Calls Try.prog 7 #[.slice (some x) n cap] w fun e w' => e = .returned (.slice (some ⟨w.heap.size, 0, none⟩) n n) ∧ Fills w' w.heap.size n n Nm ∧ Below w.heap.size w w' := by
  have hne := fun w' => Lib.run_eql_slice_nil (P := Try.prog) w' 22 30 (some x) n cap 0 0 Try.underlying22
  have hmk := make_classes n (by omega)
  have F0 : Hid (Fills (w.alloc (.cells (classCells n) 34)) w.heap.size n 0 Nm) := fills_made w n Nm
  have B0 : Hid (Below w.heap.size w (w.alloc (.cells (classCells n) 34))) := (Below.refl _ w).alloc (Nat.le_refl _) _
  go_enter Try.func7, Try.ntmps7
  go_wp2_with fail
  clear hmk hne
  go_loopw [4] (fun i wr => ∃ k : Nat, k ≤ n ∧ i = .int .i64 k ∧ Hid (Fills wr w.heap.size n k Nm) ∧ Hid (Below w.heap.size w wr)) (fun i _ => n - (intOf i).toNat)
  case atStart => exact ⟨0, Nat.zero_le _, rfl, F0, B0⟩
  case round =>
    obtain ⟨k, hk, rfl, HF, HB⟩ := hrel
    by_cases hlt : k < n
    · obtain rfl : x = ⟨b, o, none⟩ := by rcases HA.out with h | h; omega; exact h
      obtain ⟨h1, ⟨cd, h2⟩, f, l, c, h3, hll, h4⟩ := H.out k hlt
      have hl20 : l ≤ 1048576 := HS.out k hlt f l c h3
      have hbl : b < w.heap.size := cell_lt h1
      have g1 : wr.cell? ⟨b, o + k * 3, none⟩ = some (.string (Nm k)) := by rw [HB.out.cell (by simpa using hbl)]; exact h1
      have g2 : wr.cell? ⟨b, o + k * 3 + 1, none⟩ = some (.string cd) := by rw [HB.out.cell (by simpa using hbl)]; exact h2
      have g3 : wr.cell? ⟨b, o + k * 3 + 2, none⟩ = some (.slice f l c) := by rw [HB.out.cell (by simpa using hbl)]; exact h3
      have HFe : Hid (Fees w f l) := h4
      clear h1 h2 h3 h4
      go_wp2_with fail
      refine (class_any (Nm k) cd f l c wr hl20 (fees_kept HFe.out HB.out)).mono ?_
      rintro e w2 ⟨⟨f', l', c', rfl⟩, hb2⟩
      have HF2 : Hid (Fills w2 w.heap.size n k Nm) := fills_kept HF.out hb2
      have HB2 : Hid (Below w.heap.size w w2) := HB.out.trans (hb2.mono HB.out.size)
      obtain ⟨g, hr, _⟩ := HF2.out
      have e0 := hr.cell (i := k * 3) (by omega)
      have e1 := hr.cell (i := k * 3 + 1) (by omega)
      have e2 := hr.cell (i := k * 3 + 2) (by omega)
      have z0 := hr.frozen (k * 3)
      have z1 := hr.frozen (k * 3 + 1)
      have z2 := hr.frozen (k * 3 + 2)
      clear hb2 hr g1 g2 g3
      go_wp2_with fail
      go_roundw
      case rel => exact ⟨k + 1, by omega, by go_num, fills_next HF2.out cd f' l' c', ((HB2.out.setCell (by simp) _).setCell (by simp) _).setCell (by simp) _⟩
      case measure => simp [intOf]; omega
    · have hkn : k = n := by omega
      have HFn : Hid (Fills wr w.heap.size n n Nm) := by rw [hkn] at HF; exact HF
      clear hkn
      go_wp2_with fail
      go_ret
      exact ⟨rfl, HFn.out, HB.out⟩

/-! ### fund.Names -/
theorem Try.info9 : (Try.prog.info? 9).map (fun i => (i.zero, i.size, i.bytes)) = some (some (.string ByteArray.empty), 1, 16) := by kernel_rfl
/-- The names that the first k rounds have laid. -/
def named (Nm : Nat → ByteArray) (k i : Nat) : Value := if i < k then .string (Nm i) else .string ByteArray.empty
theorem named_next (Nm : Nat → ByteArray) (k i : Nat) : (if i = k then Value.string (Nm k) else named Nm k i) = named Nm (k + 1) i := by
  unfold named
  by_cases h : i = k
  · subst h; simp
  · rw [if_neg h]
    by_cases h2 : i < k
    · rw [if_pos h2, if_pos (by omega)]
    · rw [if_neg h2, if_neg (by omega)]

set_option maxHeartbeats 1000000 in
theorem names_any (a : Option Addr) (b o n cap : Nat) (HA : Hid (n = 0 ∨ a = some ⟨b, o, none⟩)) (Nm : Nat → ByteArray) (w : World) (hn : n ≤ 2097152) (H : Hid (Row3 w b o n Nm)) :
    Calls Try.prog 8 #[.slice a n cap] w fun e w' => e = .returned (.slice (some ⟨w.heap.size, 0, none⟩) n n) ∧ w'.rowIs w.heap.size 9 n (fun i => .string (Nm i)) ∧ Below w.heap.size w w' := by
  have hmk := Go.run_make_row' (P := Try.prog) 27 9 (.string ByteArray.empty) 16 Try.underlying27 Try.info9 rfl .i64 .i64 n (by omega) (by omega)
  have F0 : Hid ((w.alloc (.cells (madeCells #[.string ByteArray.empty] n) 9)).rowIs w.heap.size 9 n (fun _ => .string ByteArray.empty)) := World.rowIs_made w (.string ByteArray.empty) n 9
  have B0 : Hid (Below w.heap.size w (w.alloc (.cells (madeCells #[.string ByteArray.empty] n) 9))) := (Below.refl _ w).alloc (Nat.le_refl _) _
  go_enter Try.func8, Try.ntmps8
  go_wp2_with fail
  clear hmk
  go_loopw [11] (fun i wr => ∃ k : Nat, k ≤ n ∧ i = .int .i64 k ∧ Hid (wr.rowIs w.heap.size 9 n (named Nm k)) ∧ Hid (Below w.heap.size w wr)) (fun i _ => n - (intOf i).toNat)
  case atStart => exact ⟨0, Nat.zero_le _, rfl, F0.out.congr (fun i _ => by simp [named]), B0⟩
  case round =>
    obtain ⟨k, hk, rfl, HF, HB⟩ := hrel
    by_cases hlt : k < n
    · obtain rfl : a = some ⟨b, o, none⟩ := by rcases HA.out with h | h; omega; exact h
      obtain ⟨h1, ⟨cd, h2⟩, f, l, c, h3⟩ := H.out k hlt
      have hbl : b < w.heap.size := cell_lt h1
      have g1 : wr.cell? ⟨b, o + k * 3, none⟩ = some (.string (Nm k)) := by rw [HB.out.cell (by simpa using hbl)]; exact h1
      have g2 : wr.cell? ⟨b, o + k * 3 + 1, none⟩ = some (.string cd) := by rw [HB.out.cell (by simpa using hbl)]; exact h2
      have g3 : wr.cell? ⟨b, o + k * 3 + 2, none⟩ = some (.slice f l c) := by rw [HB.out.cell (by simpa using hbl)]; exact h3
      have hB : w.heap.size < wr.heap.size := HF.out.lt
      have e0 := HF.out.cell (i := k) hlt
      rw [show named Nm k k = .string ByteArray.empty by simp [named]] at e0
      have z0 := HF.out.frozen k
      clear h1 h2 h3
      go_wp2_with fail
      go_roundw
      case rel =>
        refine ⟨k + 1, by omega, by go_num, ((HF.out.set k _).congr (fun i _ => named_next Nm k i)).alloc _, (HB.out.setCell (by simp) _).alloc ?_ _⟩
        have := (HB.out.setCell (p := ⟨w.heap.size, k, none⟩) (by simp) (.string (Nm k))).size
        omega
      case measure => simp [intOf]; omega
    · have hkn : k = n := by omega
      have HFn : Hid (wr.rowIs w.heap.size 9 n (fun i => .string (Nm i))) := HF.out.congr (fun i hi => by simp [named]; omega)
      clear hkn
      go_wp2_with fail
      go_ret
      exact ⟨rfl, HFn.out, HB.out⟩
end Go.Proofs.Qxb6629022a
