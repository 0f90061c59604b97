/-
  THE WALK OF FnNamesInsertOneClassAnywhere (function 4). By an AI agent.
-/
import Derived.Test.Qxb6629022aSplit
namespace Go.Proofs.Qxb6629022a
open Go.RowKit
set_option linter.unusedVariables false

/-- The names with one more put in at place A. -/
def ins (Nm : Nat → ByteArray) (A : Nat) (en : ByteArray) (i : Nat) : ByteArray := if i < A then Nm i else if i = A then en else Nm (i - 1)
theorem ins_lt {Nm : Nat → ByteArray} {A i : Nat} {en : ByteArray} (h : i < A) : ins Nm A en i = Nm i := by simp [ins, h]
theorem ins_at {Nm : Nat → ByteArray} {A : Nat} {en : ByteArray} : ins Nm A en A = en := by simp [ins]
theorem ins_gt {Nm : Nat → ByteArray} {A i : Nat} {en : ByteArray} (h : A ≤ i) : ins Nm A en (i + 1) = Nm i := by
  unfold ins; rw [if_neg (by omega), if_neg (by omega)]; simp

theorem cls_kept {w w' : World} {b o n : Nat} {Nm : Nat → ByteArray} (h : Cls w b o n Nm) (hb : Below w.heap.size w w') : Cls w' b o n Nm := by
  intro i hi
  obtain ⟨h0, ⟨s, h1⟩, f, l, c, h2, h3, h4⟩ := h i hi
  exact ⟨by rw [hb.cell (cell_lt h0)]; exact h0, ⟨s, by rw [hb.cell (cell_lt h1)]; exact h1⟩, f, l, c, by rw [hb.cell (cell_lt h2)]; exact h2, h3, fees_kept h4 hb⟩
theorem short_kept {w w' : World} {b o n : Nat} {Nm : Nat → ByteArray} (hC : Cls w b o n Nm) (h : Short w b o n) (hb : Below w.heap.size w w') : Short w' b o n := by
  intro i hi f l c hc
  obtain ⟨h0, _⟩ := hC i hi
  have hlt : b < w.heap.size := cell_lt h0
  rw [hb.cell (p := ⟨b, o + i * 3 + 2, none⟩) hlt] at hc
  exact h i hi f l c hc

/-- zzb1ToClasses, whatever came in. -/
theorem classes_any (a : Option Addr) (b o n cap : Nat) (HN : a = none → n = 0) (HA : n = 0 ∨ a = some ⟨b, o, none⟩) (Nm : Nat → ByteArray) (w : World) (hn : n ≤ 1048576) (H : Cls w b o n Nm) (HS : Short w b o n) :
    Calls Try.prog 7 #[.slice a n cap] w fun e w' => ∃ bv, e = .returned (.slice bv n n) ∧ (n = 0 ∨ bv = some ⟨w.heap.size, 0, none⟩) ∧ Row3 w' w.heap.size 0 n Nm ∧ Below w.heap.size w w' := by
  cases a with
  | none =>
    have h0 := HN rfl
    subst h0
    exact (classes_nil 0 cap w).mono fun e w' ⟨he, hw⟩ => ⟨none, he, .inl rfl, fun i hi => absurd hi (Nat.not_lt_zero i), hw ▸ Below.refl _ _⟩
  | some x =>
    have hx : n = 0 ∨ x = ⟨b, o, none⟩ := by
      rcases HA with h | h
      · exact .inl h
      · cases h; exact .inr rfl
    exact (classes_some x b o n cap hx Nm w hn H HS).mono fun e w' ⟨he, hF, hB⟩ => ⟨_, he, .inr rfl, fills_row hF, hB⟩

/-- One ClassIn in a block of its own. -/
theorem cls_one {w w1 : World} {en ec : ByteArray} {ef : Option Addr} {el ecap : Nat} (hel : el ≤ 9223372036854775807) (HE : Fees w ef el) (hb : Below w.heap.size w w1) :
    Cls (w1.alloc (.cells #[.string en, .string ec, .slice ef el ecap] 30)) w1.heap.size 0 1 (fun _ => en) := by
  intro i hi
  obtain rfl : i = 0 := by omega
  refine ⟨by simp, ⟨ec, by simp⟩, ef, el, ecap, by simp, hel, ?_⟩
  exact fees_kept HE (hb.alloc hb.size _)

set_option maxRecDepth 100000 in
set_option maxHeartbeats 1000000 in
theorem insert_main (a : Option Addr) (b o n cap : Nat) (HN : Hid (a = none → n = 0)) (HA : Hid (n = 0 ∨ a = some ⟨b, o, none⟩)) (k : Int) (Nm : Nat → ByteArray) (en ec : ByteArray) (ef : Option Addr) (el ecap : Nat) (w : World)
    (hcap : n ≤ cap) (hm : cap ≤ maxLen) (H : Hid (Cls w b o n Nm)) (hel : el ≤ 9223372036854775807) (HE : Hid (Fees w ef el)) :
    Calls Try.prog 4 #[.slice a n cap, .int .i64 k, .agg #[.string en, .string ec, .slice ef el ecap]] w fun e w' => e = .returned (.bool true) ∧ Below w.heap.size w w' := by
  have hm' : cap ≤ 9223372036854775807 := by unfold maxLen at hm; omega
  have HM : Hid (cap ≤ maxLen) := hm
  clear hm
  obtain ⟨wA, hwA⟩ : ∃ wA, wA = w.alloc (.cells #[.string en, .string ec, .slice ef el ecap] 30) := ⟨_, rfl⟩
  have hA1 : Below w.heap.size w wA := by rw [hwA]; exact (Below.refl _ w).alloc (Nat.le_refl _) _
  have hA2 : wA.heap.size = w.heap.size + 1 := by rw [hwA]; simp
  have hA3 : wA.cell? ⟨w.heap.size, 0, none⟩ = some (.string en) ∧ wA.cell? ⟨w.heap.size, 1, none⟩ = some (.string ec) ∧ wA.cell? ⟨w.heap.size, 2, none⟩ = some (.slice ef el ecap) := by
    rw [hwA]; exact ⟨by simp, by simp, by simp⟩
  have HA1 : Hid (Below w.heap.size w wA) := hA1
  have HA2 : Hid (wA.heap.size = w.heap.size + 1) := hA2
  have HA3 : Hid (wA.cell? ⟨w.heap.size, 0, none⟩ = some (.string en) ∧ wA.cell? ⟨w.heap.size, 1, none⟩ = some (.string ec) ∧ wA.cell? ⟨w.heap.size, 2, none⟩ = some (.slice ef el ecap)) := hA3
  have HCA : Hid (Cls wA b o n Nm) := cls_kept H.out hA1
  have HEA : Hid (Fees wA ef el) := fees_kept HE.out hA1
  clear hA1 hA2 hA3
  go_enter Try.func4, Try.ntmps4
  go_wp2_with fail
  rw [← hwA]
  clear hwA
  refine (bytes9_any a b o n cap HA k Nm en ec ef el ecap wA hcap HM.out HCA hel HEA).mono ?_
  rintro e w1 ⟨hlook, hb1⟩
  rcases hlook with rfl | ⟨rfl, hn, hS, hel2⟩
  · have HB : Hid (Below w.heap.size w w1) := HA1.out.trans (hb1.mono (by rw [HA2.out]; omega))
    clear hb1
    go_wp2_with fail
    go_ret
    exact ⟨rfl, HB.out⟩
  have HC1 : Hid (Cls w1 b o n Nm) := cls_kept HCA.out hb1
  have HS1 : Hid (Short w1 b o n) := short_kept HCA.out hS hb1
  have HB1 : Hid (Below wA.heap.size wA w1) := hb1
  clear hS hb1
  have HW1 : Hid (Below w.heap.size w w1) := HA1.out.trans (HB1.out.mono (by rw [HA2.out]; omega))
  go_wp2_with fail
  refine (look6 a b o n cap HA.out 0 Nm w1 hcap HM.out HC1.out).mono ?_
  rintro e w' ⟨⟨t, rfl⟩, hw⟩
  have hw := hw.symm
  subst hw
  by_cases ht : 1048576 < t
  · go_wp2_with fail
    go_ret
    exact ⟨rfl, HW1.out⟩
  have b0 : w1.cell? ⟨w.heap.size, 0, none⟩ = some (.string en) := by rw [HB1.out.cell (by simp [HA2.out])]; exact HA3.out.1
  have b1 : w1.cell? ⟨w.heap.size, 1, none⟩ = some (.string ec) := by rw [HB1.out.cell (by simp [HA2.out])]; exact HA3.out.2.1
  have b2 : w1.cell? ⟨w.heap.size, 2, none⟩ = some (.slice ef el ecap) := by rw [HB1.out.cell (by simp [HA2.out])]; exact HA3.out.2.2
  obtain ⟨w2, hw2⟩ : ∃ w2, w2 = w1.alloc (.cells #[.string en, .string ec, .slice ef el ecap] 30) := ⟨_, rfl⟩
  have hb2 : Below w1.heap.size w1 w2 := by rw [hw2]; exact (Below.refl _ w1).alloc (Nat.le_refl _) _
  have HO : Hid (Cls w2 w1.heap.size 0 1 (fun _ => en)) := by rw [hw2]; exact cls_one hel HE.out HW1.out
  have HC2 : Hid (Cls w2 b o n Nm) := cls_kept HC1.out hb2
  have HS2 : Hid (Short w2 b o n) := short_kept HC1.out HS1.out hb2
  have HB2 : Hid (Below wA.heap.size wA w2) := HB1.out.trans (hb2.mono HB1.out.size)
  clear hb2
  go_wp2_with fail
  rw [← hw2]
  clear hw2 b0 b1 b2 HC1 HS1 HW1 HCA
  refine (size_any w1.heap.size 0 1 1 t (fun _ => en) w2 (by omega) (by unfold maxLen; omega) HO).mono ?_
  rintro e w' ⟨⟨t2, rfl⟩, hw⟩
  have hw := hw.symm
  subst hw
  have HW2 : Hid (Below w.heap.size w w2) := HA1.out.trans (HB2.out.mono (by rw [HA2.out]; omega))
  by_cases ht2 : 1048576 < t2
  · go_wp2_with fail
    go_ret
    exact ⟨rfl, HW2.out⟩
  by_cases hk : k < 0 ∨ (n : Int) < k
  · rcases hk with hk | hk
    · have hk0 : decide (k < 0) = true := by simpa using hk
      go_wp2_with fail
      go_ret
      exact ⟨rfl, HW2.out⟩
    · have hk0 : decide (k < 0) = false := by simp; omega
      go_wp2_with fail
      go_ret
      exact ⟨rfl, HW2.out⟩
  obtain ⟨A, hAk⟩ := Int.eq_ofNat_of_zero_le (show 0 ≤ k by omega)
  subst hAk
  have hAn : A ≤ n := by omega
  have hk0 : decide ((A : Int) < 0) = false := by simp
  clear hk
  go_wp2_with fail
  refine (classes_any a b o n cap HN.out HA.out Nm w2 hn HC2.out HS2.out).mono ?_
  rintro e w3 ⟨bv, rfl, hbv, hR3, hb3⟩
  have HBV : Hid (n = 0 ∨ bv = some ⟨w2.heap.size, 0, none⟩) := hbv
  have HR3 : Hid (Row3 w3 w2.heap.size 0 n Nm) := hR3
  have HB3 : Hid (Below wA.heap.size wA w3) := HB2.out.trans (hb3.mono HB2.out.size)
  clear hbv hR3 hb3 HO HC2 HS2 hk0
  have hmk := make_classes (n + 1) (by omega)
  have ecast : ((n + 1 : Nat) : Int) = (n : Int) + 1 := by omega
  rw [ecast] at hmk
  clear ecast
  have F0 : Hid (Fills (w3.alloc (.cells (classCells (n + 1)) 34)) w3.heap.size (n + 1) 0 (ins Nm A en)) := fills_made w3 (n + 1) _
  have B3 : Hid (Below w3.heap.size w3 (w3.alloc (.cells (classCells (n + 1)) 34))) := (Below.refl _ w3).alloc (Nat.le_refl _) _
  go_wp2_with fail
  clear hmk
  go_loopw [10] (fun i wr => ∃ j : Nat, j ≤ A ∧ i = .int .i64 j ∧ Hid (Fills wr w3.heap.size (n + 1) j (ins Nm A en)) ∧ Hid (Below w3.heap.size w3 wr)) (fun i _ => A - (intOf i).toNat)
  case atStart => exact ⟨0, Nat.zero_le _, rfl, F0, B3⟩
  case round =>
    obtain ⟨j, hj, rfl, HF, HW⟩ := hrel
    by_cases hlt : j < A
    · obtain rfl : bv = some ⟨w2.heap.size, 0, none⟩ := by rcases HBV.out with h | h; omega; exact h
      obtain ⟨g1, ⟨cd, g2⟩, f, l, c, g3⟩ := row3_kept HR3.out HW.out j (by omega)
      rw [Nat.zero_add] at g1 g2 g3
      rw [← ins_lt (Nm := Nm) (en := en) hlt] at g1
      obtain ⟨g, hr, _⟩ := HF.out
      have e0 := hr.cell (i := j * 3) (by omega)
      have e1 := hr.cell (i := j * 3 + 1) (by omega)
      have e2 := hr.cell (i := j * 3 + 2) (by omega)
      have z0 := hr.frozen (j * 3)
      have z1 := hr.frozen (j * 3 + 1)
      have z2 := hr.frozen (j * 3 + 2)
      clear hr
      go_wp2_with fail
      go_roundw
      case rel => exact ⟨j + 1, by omega, by go_num, fills_next HF.out cd f l c, ((HW.out.setCell (by simp) _).setCell (by simp) _).setCell (by simp) _⟩
      case measure => simp [intOf]; omega
    · have HFA : Hid (Fills wr w3.heap.size (n + 1) A (ins Nm A en)) := by
        have hjA : j = A := by omega
        have h1 := HF.out
        rw [hjA] at h1
        exact h1
      have HBr : Hid (Below wA.heap.size wA wr) := HB3.out.trans (HW.out.mono HB3.out.size)
      have b0 : wr.cell? ⟨w.heap.size, 0, none⟩ = some (.string en) := by rw [HBr.out.cell (by simp [HA2.out])]; exact HA3.out.1
      have b1 : wr.cell? ⟨w.heap.size, 1, none⟩ = some (.string ec) := by rw [HBr.out.cell (by simp [HA2.out])]; exact HA3.out.2.1
      have b2 : wr.cell? ⟨w.heap.size, 2, none⟩ = some (.slice ef el ecap) := by rw [HBr.out.cell (by simp [HA2.out])]; exact HA3.out.2.2
      clear HF F0 B3
      go_wp2_with fail
      refine (class_any en ec ef el ecap wr hel2 (fees_kept HEA.out HBr.out)).mono ?_
      rintro e w5 ⟨⟨f', l', c', rfl⟩, hb5⟩
      have HF5 : Hid (Fills w5 w3.heap.size (n + 1) A (ins Nm A en)) := fills_kept HFA.out hb5
      have HW5 : Hid (Below w3.heap.size w3 w5) := HW.out.trans (hb5.mono HW.out.size)
      obtain ⟨g, hr, _⟩ := HF5.out
      have e0 := hr.cell (i := A * 3) (by omega)
      have e1 := hr.cell (i := A * 3 + 1) (by omega)
      have e2 := hr.cell (i := A * 3 + 2) (by omega)
      have z0 := hr.frozen (A * 3)
      have z1 := hr.frozen (A * 3 + 1)
      have z2 := hr.frozen (A * 3 + 2)
      have hI : (A : Int) < (n : Int) + 1 := by omega
      have HF6 : Hid (Fills (((w5.setCell ⟨w3.heap.size, A * 3, none⟩ (.string en)).setCell ⟨w3.heap.size, A * 3 + 1, none⟩ (.string ec)).setCell ⟨w3.heap.size, A * 3 + 2, none⟩ (.slice f' l' c')) w3.heap.size (n + 1) (A + 1) (ins Nm A en)) := by
        have h1 := fills_next HF5.out ec f' l' c'
        rw [ins_at] at h1
        exact h1
      have HW6 : Hid (Below w3.heap.size w3 (((w5.setCell ⟨w3.heap.size, A * 3, none⟩ (.string en)).setCell ⟨w3.heap.size, A * 3 + 1, none⟩ (.string ec)).setCell ⟨w3.heap.size, A * 3 + 2, none⟩ (.slice f' l' c'))) :=
        ((HW5.out.setCell (by simp) _).setCell (by simp) _).setCell (by simp) _
      clear hb5 hr b0 b1 b2 HFA HBr HF5 HW5
      go_wp2_with fail
      clear e0 e1 e2 z0 z1 z2 hI
      generalize ((w5.setCell ⟨w3.heap.size, A * 3, none⟩ (.string en)).setCell ⟨w3.heap.size, A * 3 + 1, none⟩ (.string ec)).setCell ⟨w3.heap.size, A * 3 + 2, none⟩ (.slice f' l' c') = w6 at HF6 HW6 ⊢
      go_loopw [11] (fun i wr => ∃ j : Nat, A ≤ j ∧ j ≤ n ∧ i = .int .i64 j ∧ Hid (Fills wr w3.heap.size (n + 1) (j + 1) (ins Nm A en)) ∧ Hid (Below w3.heap.size w3 wr)) (fun i _ => n - (intOf i).toNat)
      case atStart => exact ⟨A, Nat.le_refl _, hAn, rfl, HF6, HW6⟩
      case round =>
        obtain ⟨j, hAj, hj, rfl, HF, HW⟩ := hrel
        by_cases hlt : j < n
        · obtain rfl : bv = some ⟨w2.heap.size, 0, none⟩ := by rcases HBV.out with h | h; omega; exact h
          obtain ⟨g1, ⟨cd, g2⟩, f, l, c, g3⟩ := row3_kept HR3.out HW.out j (by omega)
          rw [Nat.zero_add] at g1 g2 g3
          rw [← ins_gt (Nm := Nm) (en := en) hAj] at g1
          obtain ⟨g, hr, _⟩ := HF.out
          have e0 := hr.cell (i := (j + 1) * 3) (by omega)
          have e1 := hr.cell (i := (j + 1) * 3 + 1) (by omega)
          have e2 := hr.cell (i := (j + 1) * 3 + 2) (by omega)
          have z0 := hr.frozen ((j + 1) * 3)
          have z1 := hr.frozen ((j + 1) * 3 + 1)
          have z2 := hr.frozen ((j + 1) * 3 + 2)
          clear hr
          go_wp2_with fail
          go_roundw
          case rel => exact ⟨j + 1, by omega, by omega, by go_num, fills_next HF.out cd f l c, ((HW.out.setCell (by simp) _).setCell (by simp) _).setCell (by simp) _⟩
          case measure => simp [intOf]; omega
        · have HFn : Hid (Fills wr w3.heap.size (n + 1) (n + 1) (ins Nm A en)) := by
            have hjn : j = n := by omega
            have h1 := HF.out
            rw [hjn] at h1
            exact h1
          go_wp2_with fail
          refine (names_any bv w2.heap.size 0 n n HBV Nm wr (by omega) (row3_kept HR3.out HW.out)).mono ?_
          rintro e w7 ⟨rfl, hr7, hb7⟩
          have HA7 : Hid (Row3 w7 w3.heap.size 0 (n + 1) (ins Nm A en)) := row3_kept (fills_row HFn.out) hb7
          have HN7 : Hid (w7.rowIs wr.heap.size 9 n (fun i => .string (Nm i))) := hr7
          have HB7 : Hid (Below wr.heap.size wr w7) := hb7
          clear hr7 hb7
          go_wp2_with fail
          refine (names_any _ w3.heap.size 0 (n + 1) (n + 1) (.inr rfl) (ins Nm A en) w7 (by omega) HA7).mono ?_
          rintro e w8 ⟨rfl, hr8, hb8⟩
          have HNb : Hid (w8.rowIs wr.heap.size 9 n (fun i => .string (Nm i))) := HN7.out.of_block (hb8.block _ HN7.out.lt)
          have HNa : Hid (w8.rowIs w7.heap.size 9 (n + 1) (fun i => .string (ins Nm A en i))) := hr8
          have HB8 : Hid (Below wA.heap.size wA w8) := by
            have s1 := HB3.out.size
            have s2 := HW.out.size
            have s3 := HB7.out.size
            exact ((HB3.out.trans (HW.out.mono s1)).trans (HB7.out.mono (by omega))).trans (hb8.mono (by omega))
          have HW8 : Hid (Below w.heap.size w w8) := HA1.out.trans (HB8.out.mono (by rw [HA2.out]; omega))
          have b0 : w8.cell? ⟨w.heap.size, 0, none⟩ = some (.string en) := by rw [HB8.out.cell (by simp [HA2.out])]; exact HA3.out.1
          have ca : w8.cell? ⟨w7.heap.size, A, none⟩ = some (.string en) := by
            have h1 := HNa.out.cell (i := A) (by omega)
            rw [ins_at] at h1
            exact h1
          have hI : (A : Int) < ((n + 1 : Nat) : Int) := by omega
          have hI2 : (A : Int) < (n : Int) + 1 := by omega
          clear hr8 hb8 HFn HF HW HA7 HN7 HB7 HF6 HW6
          go_wp2_with fail
          go_quiet (fail)
          go_wp2_with fail
          clear b0 ca hI hI2
          go_loopw [14] (fun i wr => ∃ j : Nat, j ≤ n ∧ i = .int .i64 j ∧ ∃ m, wr = w8.drewN m) (fun i _ => n - (intOf i).toNat)
          case atStart => exact ⟨0, Nat.zero_le _, rfl, _, rfl⟩
          case round =>
            obtain ⟨j, hj, rfl, m, rfl⟩ := hrel
            by_cases hlt : j < n
            · obtain rfl : a = some ⟨b, o, none⟩ := by rcases HA.out with h | h; omega; exact h
              obtain ⟨h1, _⟩ := H.out j hlt
              have hcc : w8.cell? ⟨b, o + j * 3, none⟩ = some (.string (Nm j)) := by rw [HW8.out.cell (cell_lt h1)]; exact h1
              have hcb := HNb.out.cell hlt
              have hi1 : (j : Int) < (n : Int) := by omega
              clear h1
              by_cases hjA : j < A
              · have hca : w8.cell? ⟨w7.heap.size, j, none⟩ = some (.string (Nm j)) := by
                  have h2 := HNa.out.cell (i := j) (by omega)
                  rw [ins_lt hjA] at h2
                  exact h2
                have hi2 : (j : Int) < (n : Int) + 1 := by omega
                go_wp2_with fail
                go_quiet (fail)
                go_wp2_with fail
                go_quiet (fail)
                go_wp2_with fail
                go_roundw
                case rel => exact ⟨j + 1, by omega, by go_num, _, rfl⟩
                case measure => simp [intOf]; omega
              · have hca : w8.cell? ⟨w7.heap.size, j + 1, none⟩ = some (.string (Nm j)) := by
                  have h2 := HNa.out.cell (i := j + 1) (by omega)
                  rw [ins_gt (by omega)] at h2
                  exact h2
                have hi2 : (j : Int) + 1 < (n : Int) + 1 := by omega
                go_wp2_with fail
                go_quiet (fail)
                go_wp2_with fail
                go_quiet (fail)
                go_wp2_with fail
                go_roundw
                case rel => exact ⟨j + 1, by omega, by go_num, _, rfl⟩
                case measure => simp [intOf]; omega
            · go_wp2_with fail
              go_ret
              exact ⟨rfl, below_drewN HW8.out m⟩
end Go.Proofs.Qxb6629022a
