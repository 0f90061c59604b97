/-
  THE WALKS OF THE TWO LAWS (functions 3 and 4). By an AI agent.
-/
import Derived.Test.Qxb6628719aFmtWalks1
namespace Go.Proofs.Qxb6628719aFmt
open Go.RowKit
set_option linter.unusedVariables false

/-! ### FnLenIsCappedWholePad -/
theorem law3_size (size block limit : Int) (w : World) (h : size < 0 ∨ 536870912 < size) :
    Calls Tryf.prog 3 #[.int .i64 size, .int .i64 block, .int .i64 limit] w fun e w' => e = .returned (.bool true) ∧ w' = w := by
  rcases h with h | h
  · have h1 : decide (size < 0) = true := by simpa using h
    go_enter Tryf.func3, Tryf.ntmps3
    go_wp2
    go_ret
    exact ⟨rfl, rfl⟩
  · have h1 : decide (size < 0) = false := by simp; omega
    go_enter Tryf.func3, Tryf.ntmps3
    go_wp2
    go_ret
    exact ⟨rfl, rfl⟩
theorem law3_block (size block limit : Int) (w : World) (h0 : 0 ≤ size) (h00 : size ≤ 536870912) (h : block < 1 ∨ 536870912 < block) :
    Calls Tryf.prog 3 #[.int .i64 size, .int .i64 block, .int .i64 limit] w fun e w' => e = .returned (.bool true) ∧ w' = w := by
  have h1 : decide (size < 0) = false := by simp; omega
  rcases h with h | h
  · have h2 : decide (block < 1) = true := by simpa using h
    go_enter Tryf.func3, Tryf.ntmps3
    go_wp2
    go_ret
    exact ⟨rfl, rfl⟩
  · have h2 : decide (block < 1) = false := by simp; omega
    go_enter Tryf.func3, Tryf.ntmps3
    go_wp2
    go_ret
    exact ⟨rfl, rfl⟩
set_option maxHeartbeats 400000 in
theorem law3_low (size block limit p : Int) (w : World) (h0 : 0 ≤ size) (h00 : size ≤ 536870912) (hb : 1 ≤ block) (hb2 : block ≤ 536870912) (h : limit < size)
    (hp : Hid (p = pad size block)) (hp0 : 0 ≤ p) (hp1 : p < block) (hp2 : ((size + 4 + p) % block != 0) = false) :
    Calls Tryf.prog 3 #[.int .i64 size, .int .i64 block, .int .i64 limit] w fun e w' => e = .returned (.bool true) ∧ w' = w := by
  have h1 : decide (size < 0) = false := by simp; omega
  have h2 : decide (block < 1) = false := by simp; omega
  have h3 : decide (p < 0) = false := by simp; omega
  go_enter Tryf.func3, Tryf.ntmps3
  go_wp2_with fail
  refine (len_low size block limit _ hb h0 h).mono ?_
  rintro e w' ⟨rfl, rfl⟩
  go_wp2_with fail
  refine (len_room size block _ p _ hb hb2 h0 (by omega) (by omega) (by omega) (.inl ⟨by have := hp.out; omega, hp.out⟩)).mono ?_
  rintro e w' ⟨rfl, rfl⟩
  go_wp2
  go_ret
  exact ⟨rfl, rfl⟩
set_option maxHeartbeats 400000 in
theorem law3_tight (size block limit p : Int) (w : World) (h0 : 0 ≤ size) (h00 : size ≤ 536870912) (hb : 1 ≤ block) (hb2 : block ≤ 536870912) (hl : limit ≤ 9223372036854775807) (h : size ≤ limit) (hh : limit < size + 4)
    (hp : Hid (p = pad size block)) (hp0 : 0 ≤ p) (hp1 : p < block) (hp2 : ((size + 4 + p) % block != 0) = false) :
    Calls Tryf.prog 3 #[.int .i64 size, .int .i64 block, .int .i64 limit] w fun e w' => e = .returned (.bool true) ∧ w' = w := by
  have h1 : decide (size < 0) = false := by simp; omega
  have h2 : decide (block < 1) = false := by simp; omega
  have h3 : decide (p < 0) = false := by simp; omega
  go_enter Tryf.func3, Tryf.ntmps3
  go_wp2_with fail
  refine (len_tight size block limit _ hb h0 hl h hh).mono ?_
  rintro e w' ⟨rfl, rfl⟩
  go_wp2_with fail
  refine (len_room size block _ p _ hb hb2 h0 (by omega) (by omega) (by omega) (.inl ⟨by have := hp.out; omega, hp.out⟩)).mono ?_
  rintro e w' ⟨rfl, rfl⟩
  go_wp2
  go_ret
  exact ⟨rfl, rfl⟩
set_option maxHeartbeats 400000 in
theorem law3_room (size block limit p m : Int) (w : World) (h0 : 0 ≤ size) (h00 : size ≤ 536870912) (hb : 1 ≤ block) (hb2 : block ≤ 536870912) (hl : limit ≤ 9223372036854775807) (h : size + 4 ≤ limit)
    (hp : Hid (p = pad size block)) (hp0 : 0 ≤ p) (hp1 : p < block) (hp2 : ((size + 4 + p) % block != 0) = false)
    (hm : (p < limit - size - 4 ∧ Hid (m = p)) ∨ (limit - size - 4 ≤ p ∧ Hid (m = limit - size - 4))) :
    Calls Tryf.prog 3 #[.int .i64 size, .int .i64 block, .int .i64 limit] w fun e w' => e = .returned (.bool true) ∧ w' = w := by
  have h1 : decide (size < 0) = false := by simp; omega
  have h2 : decide (block < 1) = false := by simp; omega
  have h3 : decide (p < 0) = false := by simp; omega
  rcases hm with ⟨hlt, hm⟩ | ⟨hle, hm⟩
  · have hmm := hm.out
    subst hmm
    clear hm
    go_enter Tryf.func3, Tryf.ntmps3
    go_wp2_with fail
    refine (len_room size block limit m _ hb hb2 h0 (by omega) (by omega) (by omega) (.inl ⟨by have := hp.out; omega, hp.out⟩)).mono ?_
    rintro e w' ⟨rfl, rfl⟩
    go_wp2_with fail
    refine (len_room size block _ m _ hb hb2 h0 (by omega) (by omega) (by omega) (.inl ⟨by have := hp.out; omega, hp.out⟩)).mono ?_
    rintro e w' ⟨rfl, rfl⟩
    go_wp2
    go_ret
    exact ⟨rfl, rfl⟩
  · have hmm := hm.out
    subst hmm
    clear hm
    go_enter Tryf.func3, Tryf.ntmps3
    go_wp2_with fail
    refine (len_room size block limit (limit - size - 4) _ hb hb2 h0 (by omega) (by omega) (by omega) (.inr ⟨by have := hp.out; omega, rfl⟩)).mono ?_
    rintro e w' ⟨rfl, rfl⟩
    go_wp2_with fail
    refine (len_room size block _ p _ hb hb2 h0 (by omega) (by omega) (by omega) (.inl ⟨by have := hp.out; omega, hp.out⟩)).mono ?_
    rintro e w' ⟨rfl, rfl⟩
    go_wp2
    go_ret
    exact ⟨rfl, rfl⟩

/-- The first law, at every input. -/
theorem law3 (size block limit : Int) (w : World) (hl : limit ≤ 9223372036854775807) :
    Calls Tryf.prog 3 #[.int .i64 size, .int .i64 block, .int .i64 limit] w fun e w' => e = .returned (.bool true) ∧ w' = w := by
  by_cases hs : size < 0 ∨ 536870912 < size
  · exact law3_size size block limit w hs
  by_cases hb : block < 1 ∨ 536870912 < block
  · exact law3_block size block limit w (by omega) (by omega) hb
  have hb1 : 1 ≤ block := by omega
  have hbd := pad_bd (s := size) hb1
  have hwh : ((size + 4 + pad size block) % block != 0) = false := by simpa using pad_whole (s := size) hb1
  by_cases h1 : limit < size
  · exact law3_low size block limit _ w (by omega) (by omega) hb1 (by omega) h1 rfl hbd.1 hbd.2 hwh
  by_cases h2 : limit < size + 4
  · exact law3_tight size block limit _ w (by omega) (by omega) hb1 (by omega) hl (by omega) h2 rfl hbd.1 hbd.2 hwh
  by_cases h3 : pad size block < limit - size - 4
  · exact law3_room size block limit _ _ w (by omega) (by omega) hb1 (by omega) hl (by omega) rfl hbd.1 hbd.2 hwh (.inl ⟨h3, rfl⟩)
  · exact law3_room size block limit _ _ w (by omega) (by omega) hb1 (by omega) hl (by omega) rfl hbd.1 hbd.2 hwh (.inr ⟨by omega, rfl⟩)

/-! ### FnLenShiftByBlock -/
theorem law4_size (size block limit : Int) (w : World) (h : size < 0 ∨ 536870912 < size) :
    Calls Tryf.prog 4 #[.int .i64 size, .int .i64 block, .int .i64 limit] w fun e w' => e = .returned (.bool true) ∧ w' = w := by
  rcases h with h | h
  · have h1 : decide (size < 0) = true := by simpa using h
    go_enter Tryf.func4, Tryf.ntmps4
    go_wp2
    go_ret
    exact ⟨rfl, rfl⟩
  · have h1 : decide (size < 0) = false := by simp; omega
    go_enter Tryf.func4, Tryf.ntmps4
    go_wp2
    go_ret
    exact ⟨rfl, rfl⟩
theorem law4_block (size block limit : Int) (w : World) (h0 : 0 ≤ size) (h00 : size ≤ 536870912) (h : block < 1 ∨ 536870912 < block) :
    Calls Tryf.prog 4 #[.int .i64 size, .int .i64 block, .int .i64 limit] w fun e w' => e = .returned (.bool true) ∧ w' = w := by
  have h1 : decide (size < 0) = false := by simp; omega
  rcases h with h | h
  · have h2 : decide (block < 1) = true := by simpa using h
    go_enter Tryf.func4, Tryf.ntmps4
    go_wp2
    go_ret
    exact ⟨rfl, rfl⟩
  · have h2 : decide (block < 1) = false := by simp; omega
    go_enter Tryf.func4, Tryf.ntmps4
    go_wp2
    go_ret
    exact ⟨rfl, rfl⟩
theorem law4_limit (size block limit : Int) (w : World) (h0 : 0 ≤ size) (h00 : size ≤ 536870912) (hb : 1 ≤ block) (hb2 : block ≤ 536870912) (h : 536870912 < limit) :
    Calls Tryf.prog 4 #[.int .i64 size, .int .i64 block, .int .i64 limit] w fun e w' => e = .returned (.bool true) ∧ w' = w := by
  have h1 : decide (size < 0) = false := by simp; omega
  have h2 : decide (block < 1) = false := by simp; omega
  go_enter Tryf.func4, Tryf.ntmps4
  go_wp2
  go_ret
  exact ⟨rfl, rfl⟩
set_option maxHeartbeats 400000 in
theorem law4_low (size block limit : Int) (w : World) (h0 : 0 ≤ size) (h00 : size ≤ 536870912) (hb : 1 ≤ block) (hb2 : block ≤ 536870912) (hl0 : -9223372036854775808 ≤ limit) (h : limit < size) (hl : limit ≤ 536870912) :
    Calls Tryf.prog 4 #[.int .i64 size, .int .i64 block, .int .i64 limit] w fun e w' => e = .returned (.bool true) ∧ w' = w := by
  have h1 : decide (size < 0) = false := by simp; omega
  have h2 : decide (block < 1) = false := by simp; omega
  have h4 : decide (size + 4 ≤ limit) = false := by simp; omega
  go_enter Tryf.func4, Tryf.ntmps4
  go_wp2_with fail
  refine (len_low size block limit _ hb h0 h).mono ?_
  rintro e w' ⟨rfl, rfl⟩
  go_wp2_with fail
  refine (len_low (size + block) block (limit + block) _ hb (by omega) (by omega)).mono ?_
  rintro e w' ⟨rfl, rfl⟩
  go_wp2
  go_ret
  exact ⟨rfl, rfl⟩
set_option maxHeartbeats 400000 in
theorem law4_tight (size block limit : Int) (w : World) (h0 : 0 ≤ size) (h00 : size ≤ 536870912) (hb : 1 ≤ block) (hb2 : block ≤ 536870912) (h : size ≤ limit) (hh : limit < size + 4) (hl : limit ≤ 536870912) :
    Calls Tryf.prog 4 #[.int .i64 size, .int .i64 block, .int .i64 limit] w fun e w' => e = .returned (.bool true) ∧ w' = w := by
  have h1 : decide (size < 0) = false := by simp; omega
  have h2 : decide (block < 1) = false := by simp; omega
  have h4 : decide (size + 4 ≤ limit) = false := by simp; omega
  go_enter Tryf.func4, Tryf.ntmps4
  go_wp2_with fail
  refine (len_tight size block limit _ hb h0 (by omega) h hh).mono ?_
  rintro e w' ⟨rfl, rfl⟩
  go_wp2_with fail
  refine (len_tight (size + block) block (limit + block) _ hb (by omega) (by omega) (by omega) (by omega)).mono ?_
  rintro e w' ⟨rfl, rfl⟩
  go_wp2
  go_ret
  exact ⟨rfl, rfl⟩
set_option maxHeartbeats 400000 in
theorem law4_room (size block limit p m : Int) (w : World) (h0 : 0 ≤ size) (h00 : size ≤ 536870912) (hb : 1 ≤ block) (hb2 : block ≤ 536870912) (hl : limit ≤ 536870912) (h : size + 4 ≤ limit)
    (hp : Hid (p = pad size block)) (hq : Hid (p = pad (size + block) block)) (hp0 : 0 ≤ p) (hp1 : p < block) (hp2 : ((size + 4 + p) % block == 0) = true)
    (hm : (p < limit - size - 4 ∧ Hid (m = p)) ∨ (limit - size - 4 ≤ p ∧ Hid (m = limit - size - 4))) :
    Calls Tryf.prog 4 #[.int .i64 size, .int .i64 block, .int .i64 limit] w fun e w' => e = .returned (.bool true) ∧ w' = w := by
  have h1 : decide (size < 0) = false := by simp; omega
  have h2 : decide (block < 1) = false := by simp; omega
  have h4 : decide (size + 4 ≤ limit) = true := by simp; omega
  rcases hm with ⟨hlt, hm⟩ | ⟨hle, hm⟩
  · have hmm := hm.out
    subst hmm
    clear hm
    have h5 : decide (m < 0) = false := by simp; omega
    have h6 : decide (limit - size - 4 < m) = false := by simp; omega
    have h7 : (m == limit - size - 4) = false := by rw [beq_eq_false_iff_ne]; omega
    go_enter Tryf.func4, Tryf.ntmps4
    go_wp2_with fail
    refine (len_room size block limit m _ hb hb2 h0 (by omega) (by omega) (by omega) (.inl ⟨by have := hp.out; omega, hp.out⟩)).mono ?_
    rintro e w' ⟨rfl, rfl⟩
    go_wp2_with fail
    refine (len_room (size + block) block (limit + block) m _ hb hb2 (by omega) (by omega) (by omega) (by omega) (.inl ⟨by have := hq.out; omega, hq.out⟩)).mono ?_
    rintro e w' ⟨rfl, rfl⟩
    go_wp2
    go_ret
    exact ⟨rfl, rfl⟩
  · clear hp2
    have HM : Hid (m = limit - size - 4) := hm
    clear hm
    have hm0 : 0 ≤ m := by have := HM.out; omega
    have hm1 : m ≤ limit - size - 4 := by have := HM.out; omega
    have hm2 : limit - size - 4 ≤ m := by have := HM.out; omega
    have h5 : decide (m < 0) = false := by simp; omega
    have h6 : decide (limit - size - 4 < m) = false := by simp; omega
    have h7 : (m == limit - size - 4) = true := by rw [beq_iff_eq]; exact HM.out
    have h8 : m < block := by omega
    go_enter Tryf.func4, Tryf.ntmps4
    go_wp2_with fail
    refine (len_room size block limit m _ hb hb2 h0 (by omega) (by omega) (by omega) (.inr ⟨by have := hp.out; omega, HM.out⟩)).mono ?_
    rintro e w' ⟨rfl, rfl⟩
    go_wp2_with fail
    refine (len_room (size + block) block (limit + block) m _ hb hb2 (by omega) (by omega) (by omega) (by omega) (.inr ⟨by have := hq.out; omega, by have := HM.out; omega⟩)).mono ?_
    rintro e w' ⟨rfl, rfl⟩
    go_wp2
    go_ret
    exact ⟨rfl, rfl⟩

/-- The second law, at every input. -/
theorem law4 (size block limit : Int) (w : World) (hl0 : -9223372036854775808 ≤ limit) :
    Calls Tryf.prog 4 #[.int .i64 size, .int .i64 block, .int .i64 limit] w fun e w' => e = .returned (.bool true) ∧ w' = w := by
  by_cases hs : size < 0 ∨ 536870912 < size
  · exact law4_size size block limit w hs
  by_cases hb : block < 1 ∨ 536870912 < block
  · exact law4_block size block limit w (by omega) (by omega) hb
  have hb1 : 1 ≤ block := by omega
  by_cases hl : 536870912 < limit
  · exact law4_limit size block limit w (by omega) (by omega) hb1 (by omega) hl
  have hbd := pad_bd (s := size) hb1
  have hwh : ((size + 4 + pad size block) % block == 0) = true := by simpa using pad_whole (s := size) hb1
  by_cases h1 : limit < size
  · exact law4_low size block limit w (by omega) (by omega) hb1 (by omega) hl0 h1 (by omega)
  by_cases h2 : limit < size + 4
  · exact law4_tight size block limit w (by omega) (by omega) hb1 (by omega) (by omega) h2 (by omega)
  by_cases h3 : pad size block < limit - size - 4
  · exact law4_room size block limit _ _ w (by omega) (by omega) hb1 (by omega) (by omega) (by omega) rfl pad_shift.symm hbd.1 hbd.2 hwh (.inl ⟨h3, rfl⟩)
  · exact law4_room size block limit _ _ w (by omega) (by omega) hb1 (by omega) (by omega) (by omega) rfl pad_shift.symm hbd.1 hbd.2 hwh (.inr ⟨by omega, rfl⟩)
end Go.Proofs.Qxb6628719aFmt
