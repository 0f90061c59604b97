/-
  THE WALKS OF 'zzStep' (function 9), AND THE PLAIN LAW OF ONE MORE BYTE. By an AI agent.
-/
import Derived.Test.Qxb6628469aSaid
namespace Go.Proofs.Qxb6628469a
open Go.RowKit
set_option linter.unusedVariables false

theorem step_bad (a : Option Addr) (len cap : Nat) (u c : Int) (ok : Bool) (w : World) (h0 : 0 ≤ c) (h1 : c ≤ 255) (h : c < 48 ∨ 57 < c) :
    Calls Try.prog 9 #[.slice a len cap, .int .i64 u, .bool ok, .int .u8 c] w fun e w' => e = .returned (.tuple #[.int .i64 0, .bool false]) ∧ w' = w := by
  by_cases hlo : c < 48
  · have h3 : decide (c < 48) = true := by simpa using hlo
    clear h
    go_enter Try.func9, Try.ntmps9
    go_wp2
    go_ret2
    exact ⟨rfl, rfl⟩
  · have h3 : decide (c < 48) = false := by simpa using hlo
    have h4 : 57 < c := by omega
    clear h
    go_enter Try.func9, Try.ntmps9
    go_wp2
    go_ret2
    exact ⟨rfl, rfl⟩
theorem step_first (a : Option Addr) (cap : Nat) (u c : Int) (ok : Bool) (w : World) (h0 : 48 ≤ c) (h1 : c ≤ 57) :
    Calls Try.prog 9 #[.slice a 0 cap, .int .i64 u, .bool ok, .int .u8 c] w fun e w' => e = .returned (.tuple #[.int .i64 (c - 48), .bool true]) ∧ w' = w := by
  have h3 : decide (c < 48) = false := by simp; omega
  go_enter Try.func9, Try.ntmps9
  go_wp2
  go_ret2
  exact ⟨rfl, rfl⟩
theorem step_long (a : Option Addr) (len cap : Nat) (u c : Int) (w : World) (h0 : 48 ≤ c) (h1 : c ≤ 57) (hn : 2 ≤ len) :
    Calls Try.prog 9 #[.slice a len cap, .int .i64 u, .bool false, .int .u8 c] w fun e w' => e = .returned (.tuple #[.int .i64 0, .bool false]) ∧ w' = w := by
  have h3 : decide (c < 48) = false := by simp; omega
  have h5 : ((len : Int) == 0) = false := by rw [beq_eq_false_iff_ne]; omega
  have h6 : ((len : Int) == 1) = false := by rw [beq_eq_false_iff_ne]; omega
  go_enter Try.func9, Try.ntmps9
  go_wp2
  go_ret2
  exact ⟨rfl, rfl⟩
theorem step_other (b off cap : Nat) (u c x : Int) (w : World) (h0 : 48 ≤ c) (h1 : c ≤ 57) (hx : w.cell? ⟨b, off, none⟩ = some (.int .u8 x)) (h45 : (x == 45) = false) :
    Calls Try.prog 9 #[.slice (some ⟨b, off, none⟩) 1 cap, .int .i64 u, .bool false, .int .u8 c] w fun e w' => e = .returned (.tuple #[.int .i64 0, .bool false]) ∧ w' = w := by
  have h3 : decide (c < 48) = false := by simp; omega
  go_enter Try.func9, Try.ntmps9
  go_wp2
  go_ret2
  exact ⟨rfl, rfl⟩
theorem step_dash0 (b off cap : Nat) (u : Int) (w : World) (hx : w.cell? ⟨b, off, none⟩ = some (.int .u8 45)) :
    Calls Try.prog 9 #[.slice (some ⟨b, off, none⟩) 1 cap, .int .i64 u, .bool false, .int .u8 48] w fun e w' => e = .returned (.tuple #[.int .i64 0, .bool false]) ∧ w' = w := by
  go_enter Try.func9, Try.ntmps9
  go_wp2
  go_ret2
  exact ⟨rfl, rfl⟩
theorem step_dash (b off cap : Nat) (u c : Int) (w : World) (h0 : 49 ≤ c) (h1 : c ≤ 57) (hx : w.cell? ⟨b, off, none⟩ = some (.int .u8 45)) :
    Calls Try.prog 9 #[.slice (some ⟨b, off, none⟩) 1 cap, .int .i64 u, .bool false, .int .u8 c] w fun e w' => e = .returned (.tuple #[.int .i64 (-(c - 48)), .bool true]) ∧ w' = w := by
  have h3 : decide (c < 48) = false := by simp; omega
  have h4 : (c - 48 != 0) = true := by rw [bne_iff_ne]; omega
  go_enter Try.func9, Try.ntmps9
  go_wp2
  go_ret2
  exact ⟨rfl, rfl⟩
theorem step_zero (a : Option Addr) (len cap : Nat) (c : Int) (w : World) (h0 : 48 ≤ c) (h1 : c ≤ 57) (hn : 1 ≤ len) :
    Calls Try.prog 9 #[.slice a len cap, .int .i64 0, .bool true, .int .u8 c] w fun e w' => e = .returned (.tuple #[.int .i64 0, .bool false]) ∧ w' = w := by
  have h3 : decide (c < 48) = false := by simp; omega
  have h5 : ((len : Int) == 0) = false := by rw [beq_eq_false_iff_ne]; omega
  go_enter Try.func9, Try.ntmps9
  go_wp2
  go_ret2
  exact ⟨rfl, rfl⟩
set_option maxHeartbeats 400000 in
theorem step_up (a : Option Addr) (len cap : Nat) (u c : Int) (w : World) (h0 : 48 ≤ c) (h1 : c ≤ 57) (hn : 1 ≤ len) (hu : 0 < u) (hm : u * 10 + (c - 48) ≤ 9223372036854775807) :
    Calls Try.prog 9 #[.slice a len cap, .int .i64 u, .bool true, .int .u8 c] w fun e w' => e = .returned (.tuple #[.int .i64 (u * 10 + (c - 48)), .bool true]) ∧ w' = w := by
  have h3 : decide (c < 48) = false := by simp; omega
  have h5 : ((len : Int) == 0) = false := by rw [beq_eq_false_iff_ne]; omega
  have h6 : (u == 0) = false := by rw [beq_eq_false_iff_ne]; omega
  have h7 : ¬ (9223372036854775807 - (c - 48)) / 10 < u := by omega
  go_enter Try.func9, Try.ntmps9
  go_wp2
  go_ret2
  exact ⟨rfl, rfl⟩
set_option maxHeartbeats 400000 in
theorem step_over (a : Option Addr) (len cap : Nat) (u c : Int) (w : World) (h0 : 48 ≤ c) (h1 : c ≤ 57) (hn : 1 ≤ len) (hu : 0 < u) (hm : 9223372036854775807 < u * 10 + (c - 48)) :
    Calls Try.prog 9 #[.slice a len cap, .int .i64 u, .bool true, .int .u8 c] w fun e w' => e = .returned (.tuple #[.int .i64 0, .bool false]) ∧ w' = w := by
  have h3 : decide (c < 48) = false := by simp; omega
  have h5 : ((len : Int) == 0) = false := by rw [beq_eq_false_iff_ne]; omega
  have h6 : (u == 0) = false := by rw [beq_eq_false_iff_ne]; omega
  have h7 : (9223372036854775807 - (c - 48)) / 10 < u := by omega
  go_enter Try.func9, Try.ntmps9
  go_wp2
  go_ret2
  exact ⟨rfl, rfl⟩
theorem tdiv_lo {x : Int} (h : x ≤ 0) : x.tdiv 10 = -((-x) / 10) := by
  have : x = -(-x) := by omega
  rw [this, Int.neg_tdiv, Int.tdiv_eq_ediv_of_nonneg (by omega)]
  simp
set_option maxHeartbeats 400000 in
theorem step_down (a : Option Addr) (len cap : Nat) (u c : Int) (w : World) (h0 : 48 ≤ c) (h1 : c ≤ 57) (hn : 1 ≤ len) (hu : u < 0) (hm : -9223372036854775808 ≤ u * 10 - (c - 48)) :
    Calls Try.prog 9 #[.slice a len cap, .int .i64 u, .bool true, .int .u8 c] w fun e w' => e = .returned (.tuple #[.int .i64 (u * 10 - (c - 48)), .bool true]) ∧ w' = w := by
  have h3 : decide (c < 48) = false := by simp; omega
  have h5 : ((len : Int) == 0) = false := by rw [beq_eq_false_iff_ne]; omega
  have h6 : (u == 0) = false := by rw [beq_eq_false_iff_ne]; omega
  have h7 : ¬ u < (-9223372036854775808 + (c - 48)).tdiv 10 := by rw [tdiv_lo (by omega)]; omega
  go_enter Try.func9, Try.ntmps9
  go_wp2
  go_ret2
  exact ⟨rfl, rfl⟩
set_option maxHeartbeats 400000 in
theorem step_under (a : Option Addr) (len cap : Nat) (u c : Int) (w : World) (h0 : 48 ≤ c) (h1 : c ≤ 57) (hn : 1 ≤ len) (hu : u < 0) (hm : u * 10 - (c - 48) < -9223372036854775808) :
    Calls Try.prog 9 #[.slice a len cap, .int .i64 u, .bool true, .int .u8 c] w fun e w' => e = .returned (.tuple #[.int .i64 0, .bool false]) ∧ w' = w := by
  have h3 : decide (c < 48) = false := by simp; omega
  have h5 : ((len : Int) == 0) = false := by rw [beq_eq_false_iff_ne]; omega
  have h6 : (u == 0) = false := by rw [beq_eq_false_iff_ne]; omega
  have h7 : u < (-9223372036854775808 + (c - 48)).tdiv 10 := by rw [tdiv_lo (by omega)]; omega
  go_enter Try.func9, Try.ntmps9
  go_wp2
  go_ret2
  exact ⟨rfl, rfl⟩

/-! ### The plain law -/
namespace Plain
theorem digs_snoc {l : List Int} {c : Int} (h : Digs l) (h0 : 48 ≤ c) (h1 : c ≤ 57) : Digs (l ++ [c]) := by
  intro x hx
  simp only [List.mem_append, List.mem_singleton] at hx
  rcases hx with hx | rfl
  · exact h x hx
  · exact ⟨h0, h1⟩
theorem ext_bad {p : List Int} {c : Int} (h : c < 48 ∨ 57 < c) : ¬ Good (p ++ [c]) := by
  intro g
  have key : c ∈ body (p ++ [c]) → False := fun hc => by have := g.1 c hc; omega
  match p with
  | [] =>
    by_cases h45 : c = 45
    · subst h45; exact not_good_dash g
    · exact key (by rw [List.nil_append, body_pos [] h45]; simp)
  | x :: t =>
    by_cases h45 : x = 45
    · subst h45; exact key (by rw [List.cons_append, body_neg]; simp)
    · exact key (by rw [List.cons_append, body_pos _ h45]; simp)
theorem ext_first {c : Int} (h0 : 48 ≤ c) (h1 : c ≤ 57) : pint [c] (c - 48) true := by
  have h45 : c ≠ 45 := by omega
  by_cases h48 : c = 48
  · subst h48; exact pint_zero
  · refine .inl ⟨(good_pos h45 h48).2 ⟨fun x hx => ?_, ?_⟩, rfl, ?_⟩
    · simp at hx; omega
    · simp [val]; omega
    · rw [body_pos [] h45, neg_cons, show (c == 45) = false by simpa using h45]; simp [val]
theorem ext_dash {c : Int} (h0 : 49 ≤ c) (h1 : c ≤ 57) : pint [45, c] (-(c - 48)) true := by
  refine .inl ⟨(good_neg (by omega)).2 ⟨fun x hx => ?_, ?_⟩, rfl, ?_⟩
  · simp at hx; omega
  · simp [val]; omega
  · rw [body_neg, neg_cons]; simp [val]
/-- What is refused stays refused. -/
theorem ext_no {p : List Int} {c : Int} (h : ¬ Good p) (h0 : 48 ≤ c) (h1 : c ≤ 57) (hp : p ≠ []) (hd : p ≠ [45]) : ¬ Good (p ++ [c]) := by
  intro g
  match p with
  | x :: t =>
    by_cases h45 : x = 45
    · subst h45
      match t with
      | [] => exact hd rfl
      | y :: t =>
        by_cases h48 : y = 48
        · subst h48; exact not_good_neg_zero _ g
        · have g1 := (good_neg h48).1 g
          have hD : Digs (y :: t) := g1.1.left (s := [c])
          have e : val (y :: (t ++ [c])) = val (y :: t) * 10 + (c - 48) := val_snoc (y :: t) c
          have h5 := (val_bd (y :: t) hD).1
          have h6 : val (y :: (t ++ [c])) ≤ 9223372036854775808 := g1.2
          exact h ((good_neg h48).2 ⟨hD, by omega⟩)
    · by_cases h48 : x = 48
      · subst h48; exact not_good_zero (by simp) g
      · have g1 := (good_pos h45 h48).1 g
        have hD : Digs (x :: t) := g1.1.left (s := [c])
        have e : val (x :: (t ++ [c])) = val (x :: t) * 10 + (c - 48) := val_snoc (x :: t) c
        have h5 := (val_bd (x :: t) hD).1
        have h6 : val (x :: (t ++ [c])) ≤ 9223372036854775807 := g1.2
        exact h ((good_pos h45 h48).2 ⟨hD, by omega⟩)
/-- One digit more behind a positive number. -/
theorem ext_pos {x : Int} {t : List Int} {c : Int} (h45 : x ≠ 45) (h48 : x ≠ 48) (g : Good (x :: t)) (h0 : 48 ≤ c) (h1 : c ≤ 57) :
    0 < val (x :: t) ∧ (val (x :: t) * 10 + (c - 48) ≤ 9223372036854775807 → pint (x :: t ++ [c]) (val (x :: t) * 10 + (c - 48)) true) ∧ (9223372036854775807 < val (x :: t) * 10 + (c - 48) → ¬ Good (x :: t ++ [c])) := by
  have g1 := (good_pos h45 h48).1 g
  have hx := g1.1.cons
  have e : val (x :: (t ++ [c])) = val (x :: t) * 10 + (c - 48) := val_snoc (x :: t) c
  have hlo := val_lo x t hx.2.2 (by omega)
  have hp := pow_pos' t.length
  refine ⟨by omega, fun h => .inl ⟨(good_pos h45 h48).2 ⟨digs_snoc g1.1 h0 h1, Int.le_trans (Int.le_of_eq e) h⟩, rfl, ?_⟩, fun h g2 => ?_⟩
  · rw [List.cons_append, body_pos _ h45, neg_cons, show (x == 45) = false by simpa using h45, e]; simp
  · have h5 : val (x :: (t ++ [c])) ≤ 9223372036854775807 := ((good_pos h45 h48).1 g2).2
    omega
/-- One digit more behind a negative number. -/
theorem ext_neg {x : Int} {t : List Int} {c : Int} (h48 : x ≠ 48) (g : Good (45 :: x :: t)) (h0 : 48 ≤ c) (h1 : c ≤ 57) :
    0 < val (x :: t) ∧ (val (x :: t) * 10 + (c - 48) ≤ 9223372036854775808 → pint (45 :: x :: t ++ [c]) (-(val (x :: t) * 10 + (c - 48))) true) ∧ (9223372036854775808 < val (x :: t) * 10 + (c - 48) → ¬ Good (45 :: x :: t ++ [c])) := by
  have g1 := (good_neg h48).1 g
  have hx := g1.1.cons
  have e : val (x :: (t ++ [c])) = val (x :: t) * 10 + (c - 48) := val_snoc (x :: t) c
  have hlo := val_lo x t hx.2.2 (by omega)
  have hp := pow_pos' t.length
  refine ⟨by omega, fun h => .inl ⟨(good_neg h48).2 ⟨digs_snoc g1.1 h0 h1, Int.le_trans (Int.le_of_eq e) h⟩, rfl, ?_⟩, fun h g2 => ?_⟩
  · rw [List.cons_append, body_neg, neg_cons, List.cons_append, e]; simp
  · have h5 : val (x :: (t ++ [c])) ≤ 9223372036854775808 := ((good_neg h48).1 g2).2
    omega
end Plain

/-- 'zzStep': the answer for the text with one byte more, out of the answer for the text. -/
theorem step_said (a : Option Addr) (len cap : Nat) (p : List Int) (u c : Int) (ok : Bool) (w : World) (hlen : p.length = len)
    (hl : Lies w a p) (h0 : 0 ≤ c) (h1 : c ≤ 255) (h : Plain.pint p u ok) :
    Calls Try.prog 9 #[.slice a len cap, .int .i64 u, .bool ok, .int .u8 c] w fun e w' => Said (p ++ [c]) e ∧ w' = w := by
  subst hlen
  by_cases hbad : c < 48 ∨ 57 < c
  · exact (step_bad a _ cap u c ok w h0 h1 hbad).mono fun e w' ⟨he, hw⟩ => ⟨said_no (Plain.ext_bad hbad) he, hw⟩
  have h2 : 48 ≤ c := by omega
  have h3 : c ≤ 57 := by omega
  match p, hl with
  | [], _ => exact (step_first a cap u c ok w h2 h3).mono fun e w' ⟨he, hw⟩ => ⟨⟨_, _, he, Plain.ext_first h2 h3⟩, hw⟩
  | x :: t, hl =>
    rcases h with ⟨g, rfl, rfl⟩ | ⟨g, rfl, rfl⟩
    · by_cases h45 : x = 45
      · subst h45
        match t with
        | [] => exact absurd g Plain.not_good_dash
        | y :: t =>
          by_cases h48 : y = 48
          · subst h48; exact absurd g (Plain.not_good_neg_zero t)
          have hx := Plain.ext_neg h48 g h2 h3
          rw [Plain.body_neg, Plain.neg_cons]
          simp only [beq_self_eq_true, if_true]
          by_cases hm : Plain.val (y :: t) * 10 + (c - 48) ≤ 9223372036854775808
          · refine (step_down a _ cap (-Plain.val (y :: t)) c w h2 h3 (by simp) (by omega) (by omega)).mono fun e w' ⟨he, hw⟩ => ⟨⟨_, _, he, ?_⟩, hw⟩
            rw [show -Plain.val (y :: t) * 10 - (c - 48) = -(Plain.val (y :: t) * 10 + (c - 48)) by omega]
            exact hx.2.1 hm
          · exact (step_under a _ cap (-Plain.val (y :: t)) c w h2 h3 (by simp) (by omega) (by omega)).mono fun e w' ⟨he, hw⟩ => ⟨said_no (hx.2.2 (by omega)) he, hw⟩
      · by_cases h48 : x = 48
        · subst h48
          have ht : t = [] := by
            by_cases ht : t = []
            · exact ht
            · exact absurd g (Plain.not_good_zero ht)
          subst ht
          have e : (if Plain.neg [48] = true then -Plain.val (Plain.body [48]) else Plain.val (Plain.body [48])) = 0 := by decide
          rw [e]
          exact (step_zero a _ cap c w h2 h3 (by simp)).mono fun e w' ⟨he, hw⟩ => ⟨said_no (Plain.not_good_zero (t := [c]) (by simp)) he, hw⟩
        · have hx := Plain.ext_pos h45 h48 g h2 h3
          rw [Plain.body_pos t h45, Plain.neg_cons, show (x == 45) = false by simpa using h45]
          simp only [Bool.false_eq_true, if_false]
          by_cases hm : Plain.val (x :: t) * 10 + (c - 48) ≤ 9223372036854775807
          · exact (step_up a _ cap (Plain.val (x :: t)) c w h2 h3 (by simp) hx.1 hm).mono fun e w' ⟨he, hw⟩ => ⟨⟨_, _, he, hx.2.1 hm⟩, hw⟩
          · exact (step_over a _ cap (Plain.val (x :: t)) c w h2 h3 (by simp) hx.1 (by omega)).mono fun e w' ⟨he, hw⟩ => ⟨said_no (hx.2.2 (by omega)) he, hw⟩
    · match t with
      | [] =>
        rcases hl with h | ⟨b, off, rfl, hcell⟩
        · cases h
        have hc0 : w.cell? ⟨b, off, none⟩ = some (.int .u8 x) := by simpa using hcell 0 (by simp)
        by_cases h45 : x = 45
        · subst h45
          by_cases h48 : c = 48
          · subst h48
            exact (step_dash0 b off cap 0 w hc0).mono fun e w' ⟨he, hw⟩ => ⟨said_no (Plain.not_good_neg_zero []) he, hw⟩
          · exact (step_dash b off cap 0 c w (by omega) h3 hc0).mono fun e w' ⟨he, hw⟩ => ⟨⟨_, _, he, Plain.ext_dash (by omega) h3⟩, hw⟩
        · exact (step_other b off cap 0 c x w h2 h3 hc0 (by simpa using h45)).mono fun e w' ⟨he, hw⟩ => ⟨said_no (Plain.ext_no g h2 h3 (by simp) (by simpa using h45)) he, hw⟩
      | y :: t =>
        exact (step_long a _ cap 0 c w h2 h3 (by simp)).mono fun e w' ⟨he, hw⟩ => ⟨said_no (Plain.ext_no g h2 h3 (by simp) (by simp)) he, hw⟩
end Go.Proofs.Qxb6628469a
