/-
  THE WALK OF 'FnParseIntegerExtendsByOneByte' (function 4). By an AI agent.
-/
import Derived.Test.Qxb6628469aStep
import Derived.Test.Qxb6628469aTop
import Derived.Deep.QuietTactic
import Derived.BigQuiet
namespace Go.Proofs.Qxb6628469a
open Go.RowKit
set_option linter.unusedVariables false

theorem top4_long (a : Option Addr) (len cap : Nat) (w : World) (h : 65536 < len) :
    Calls Try.prog 4 #[.slice a len cap] w fun e w' => e = .returned (.bool true) ∧ w' = w := by
  by_cases h2 : 1048576 < len
  · go_enter Try.func4, Try.ntmps4
    go_wp2_with (go_at_call 8; refine (bytes4_no _ _ _ _ h2).mono ?_; rintro e w' ⟨rfl, rfl⟩)
    go_ret
    exact ⟨rfl, rfl⟩
  · go_enter Try.func4, Try.ntmps4
    go_wp2_with (go_at_call 8; refine (bytes4_yes _ _ _ _ (by omega)).mono ?_; rintro e w' ⟨rfl, rfl⟩)
    go_ret
    exact ⟨rfl, rfl⟩

theorem nil_no {v : Int} {ok : Bool} (h : Plain.pint [] v ok) : v = 0 ∧ ok = false := by
  rcases h with ⟨g, _⟩ | ⟨_, h1, h2⟩
  · exact absurd g Plain.not_good_nil
  · exact ⟨h2, h1⟩

set_option maxHeartbeats 400000 in
theorem top4_nil (w : World) :
    Calls Try.prog 4 #[.slice none 0 0] w fun e w' => e = .returned (.bool true) ∧ w' = w := by
  go_enter Try.func4, Try.ntmps4
  go_wp2_with fail
  refine (bytes4_yes _ _ _ _ (by omega)).mono ?_
  rintro e w' ⟨rfl, rfl⟩
  go_wp2_with fail
  refine (parse_said _ _ _ [] _ rfl (by simp) (by unfold maxLen; omega) (.inl rfl) (by simp)).mono ?_
  rintro e w' ⟨⟨v, ok, rfl, h1⟩, rfl⟩
  obtain ⟨rfl, rfl⟩ := nil_no h1
  clear h1
  go_wp2_with fail
  refine wp_loop_rounds 1 ?_
  rw [rounds_succ]
  go_wp2_with fail
  go_ret
  exact ⟨rfl, rfl⟩

theorem lies_take {w : World} {g : Nat} {zs : List Int} (h : Lies w (some ⟨g, 0, none⟩) zs) (n k : Nat) : Lies (w.drewN n) (some ⟨g, 0, none⟩) (zs.take k) := by
  rcases h with rfl | ⟨b, off, he, hc⟩
  · exact .inl (by simp)
  · cases he
    refine .inr ⟨g, 0, rfl, fun i hi => ?_⟩
    have hi' : i < k ∧ i < zs.length := by simp at hi; omega
    have h1 := hc i hi'.2
    have h2 : (w.drewN n).cell? ⟨g, 0 + i, none⟩ = w.cell? ⟨g, 0 + i, none⟩ := by simp
    rw [h2, h1]
    simp [hi'.1]
theorem lies_drew {w : World} {g : Nat} {zs : List Int} (h : Lies w (some ⟨g, 0, none⟩) zs) (n : Nat) : Lies (w.drewN n) (some ⟨g, 0, none⟩) zs := by
  have := lies_take h n zs.length
  rwa [List.take_length] at this
theorem lies_cell {w : World} {g : Nat} {zs : List Int} (h : Lies w (some ⟨g, 0, none⟩) zs) {k : Nat} (hk : k < zs.length) : w.cell? ⟨g, k, none⟩ = some (.int .u8 (zs[k]?.getD 0)) := by
  rcases h with rfl | ⟨b, off, he, hc⟩
  · simp at hk
  · cases he
    have := hc k hk
    rw [Nat.zero_add] at this
    rw [this]
    simp
theorem step_same {g : Nat} (cap k : Nat) {zs : List Int} {u v : Int} {ok ok2 : Bool} {w : World} (hk : k < zs.length) (hl : Lies w (some ⟨g, 0, none⟩) zs) (hb : ∀ c ∈ zs, 0 ≤ c ∧ c ≤ 255)
    (h1 : Plain.pint (zs.take k) u ok) (h2 : Plain.pint (zs.take (k + 1)) v ok2) (n : Nat) :
    Calls Try.prog 9 #[.slice (some ⟨g, 0, none⟩) k cap, .int .i64 u, .bool ok, .int .u8 (zs[k]?.getD 0)] (w.drewN n) fun e w' => e = .returned (.tuple #[.int .i64 v, .bool ok2]) ∧ w' = w.drewN n := by
  have hc := hb _ (mem_at hk)
  refine (step_said _ k cap (zs.take k) u (zs[k]?.getD 0) ok (w.drewN n) (by simp; omega) (lies_take hl n k) hc.1 hc.2 h1).mono fun e w' ⟨⟨v', k', he, h3⟩, hw⟩ => ⟨?_, hw⟩
  rw [← take_next hk] at h3
  obtain ⟨rfl, rfl⟩ := Plain.pint_fun h2 h3
  exact he

set_option maxHeartbeats 1000000 in
theorem top4_some (x : Addr) (len cap : Nat) (zs : List Int) (w : World) (hlen : len ≤ 65536) (hcap : len ≤ cap) (hm : cap ≤ maxLen) (hz : Hid (zs.length = len))
    (hcell : ∀ i, i < zs.length → w.cell? (x.add i) = some (.int .u8 (zs.getD i 0))) (hb : ∀ c ∈ zs, 0 ≤ c ∧ c ≤ 255) :
    Calls Try.prog 4 #[.slice (some x) len cap] w fun e w' => e = .returned (.bool true) ∧ Below w.heap.size w w' := by
  have HB : Hid (∀ c ∈ zs, 0 ≤ c ∧ c ≤ 255) := hb
  obtain ⟨W2, hcp, HL, HW⟩ := copy_ran w x len cap zs hz.out hcell
  clear hcell hb
  unfold maxLen at hm
  have hmk := Go.run_make_row' (P := Try.prog) 22 5 (.int .u8 0) 1 Try.underlying22 Try.info5 rfl .i64 .i64 len (by omega) (by omega)
  have hne := fun w' => run_neq_slice_nil_any (P := Try.prog) w' 22 5 (some x) len cap 0 0 Try.underlying22
  go_enter Try.func4, Try.ntmps4
  go_wp2_with fail
  refine (bytes4_yes _ _ _ _ (by omega)).mono ?_
  rintro e w' ⟨rfl, hw1⟩
  have hw1 := hw1.symm
  subst hw1
  go_wp2_with fail
  refine (parse_said _ _ _ [] _ rfl (by simp) (by unfold maxLen; omega) (.inl rfl) (by simp)).mono ?_
  rintro e w' ⟨⟨v, ok, rfl, h1⟩, hw1⟩
  have hw1 := hw1.symm
  subst hw1
  obtain ⟨rfl, rfl⟩ := nil_no h1
  clear h1
  go_wp2_with fail
  go_loopw [6] (fun i wr => ∃ k : Nat, k ≤ len ∧ i = .int .i64 k ∧ ∃ nq, wr = W2.drewN nq) (fun i _ => len - (intOf i).toNat)
  case atStart => exact ⟨0, Nat.zero_le _, rfl, 0, rfl⟩
  case round =>
    obtain ⟨k, hk, rfl, nq, rfl⟩ := hrel
    by_cases hlt : k < len
    · have hzk : k < zs.length := by rw [hz.out]; exact hlt
      have HK : Hid (k < zs.length) := hzk
      have hck : W2.cell? ⟨w.heap.size, k, none⟩ = some (.int .u8 (zs[k]?.getD 0)) := lies_cell HL.out hzk
      clear hzk
      go_wp2_with fail
      refine (parse_said _ k len (zs.take k) _ (by have := HK.out; simp; omega) (by omega) (by unfold maxLen; omega) (lies_take HL.out nq k) (fun c hc => HB.out c (List.mem_of_mem_take hc))).mono ?_
      rintro e w' ⟨⟨u, ok, rfl, h1⟩, hw1⟩
      have hw1 := hw1.symm
      subst hw1
      have H1 : Hid (Plain.pint (zs.take k) u ok) := h1
      clear h1
      go_wp2_with fail
      refine (parse_said _ (k + 1) len (zs.take (k + 1)) _ (by have := HK.out; simp; omega) (by omega) (by unfold maxLen; omega) (lies_take HL.out nq (k + 1)) (fun c hc => HB.out c (List.mem_of_mem_take hc))).mono ?_
      rintro e w' ⟨⟨v, ok2, rfl, h2⟩, hw1⟩
      have hw1 := hw1.symm
      subst hw1
      have H2 : Hid (Plain.pint (zs.take (k + 1)) v ok2) := h2
      clear h2
      go_wp2_with fail
      go_quiet ((go_at_call 9; exact (step_same len k HK.out HL.out HB.out H1.out H2.out _).mono (fun e w' h => ⟨h.1, _, h.2⟩)))
      go_wp2
      go_roundw
      case rel => exact ⟨k + 1, by omega, by go_num, _, rfl⟩
      case measure => simp [intOf]; omega
    · go_wp2
      go_ret
      exact ⟨rfl, below_drewN HW.out nq⟩
end Go.Proofs.Qxb6628469a
