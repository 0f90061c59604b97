/-
  BOTH PARSERS ANSWER AS THE PLAIN LAW SAYS, for every row of bytes. By an AI agent.
-/
import Derived.Test.Qxb6628469aModel
namespace Go.Proofs.Qxb6628469a
open Go.RowKit
set_option linter.unusedVariables false

namespace Plain
theorem neg_cons (c : Int) (t : List Int) : neg (c :: t) = (c == 45) := by
  simp [neg]
theorem not_good_nil : ¬ Good [] := fun h => h.2.1 (by simp [body, neg])
theorem not_good_dash : ¬ Good [45] := fun h => h.2.1 (by simp [body, neg])
theorem pint_no {l : List Int} (h : ¬ Good l) : pint l 0 false := .inr ⟨h, rfl, rfl⟩
theorem pint_zero : pint [48] 0 true := by
  refine .inl ⟨⟨?_, ?_, ?_, ?_⟩, rfl, ?_⟩ <;> simp [body, neg, Digs, val, lim]
theorem body_pos {c : Int} (t : List Int) (h : c ≠ 45) : body (c :: t) = c :: t := by simp [body, neg_cons, h]
theorem body_neg (t : List Int) : body (45 :: t) = t := by simp [body, neg_cons]
theorem good_pos {c : Int} {t : List Int} (h : c ≠ 45) (h48 : c ≠ 48) : Good (c :: t) ↔ Digs (c :: t) ∧ val (c :: t) ≤ 9223372036854775807 := by
  unfold Good
  rw [body_pos t h, neg_cons, show (c == 45) = false by simpa using h]
  constructor
  · intro g; exact ⟨g.1, by simpa [lim] using g.2.2.2⟩
  · intro g; exact ⟨g.1, by simp, fun h1 => absurd (by simpa using h1) h48, by simpa [lim] using g.2⟩
theorem good_neg {c : Int} {t : List Int} (h48 : c ≠ 48) : Good (45 :: c :: t) ↔ Digs (c :: t) ∧ val (c :: t) ≤ 9223372036854775808 := by
  unfold Good
  rw [body_neg, neg_cons]
  constructor
  · intro g; exact ⟨g.1, by simpa [lim] using g.2.2.2⟩
  · intro g; exact ⟨g.1, by simp, fun h1 => absurd (by simpa using h1) h48, by simpa [lim] using g.2⟩
theorem not_good_zero {t : List Int} (h : t ≠ []) : ¬ Good (48 :: t) := by
  rintro ⟨_, _, h1, _⟩
  rw [body_pos t (by decide)] at h1
  have := h1 (by simp)
  simp at this
  exact h this
theorem not_good_neg_zero (t : List Int) : ¬ Good (45 :: 48 :: t) := by
  rintro ⟨_, _, h1, _⟩
  rw [body_neg] at h1
  have := h1 (by simp)
  simp at this
end Plain

/-- The answer that a text's parse ends in. -/
def Said (zs : List Int) (e : Ending) : Prop := ∃ v ok, e = .returned (.tuple #[.int .i64 v, .bool ok]) ∧ Plain.pint zs v ok
theorem said_no {zs : List Int} {e : Ending} (h : ¬ Plain.Good zs) (he : e = .returned (.tuple #[.int .i64 0, .bool false])) : Said zs e := ⟨0, false, he, Plain.pint_no h⟩
theorem said_pos {c : Int} {t : List Int} {e : Ending} (h : c ≠ 45) (h48 : c ≠ 48) (he : Ends (c :: t) 9223372036854775807 1 e) : Said (c :: t) e := by
  rcases he with ⟨h1, h2, rfl⟩ | ⟨h1, rfl⟩
  · refine ⟨_, _, rfl, .inl ⟨(Plain.good_pos h h48).2 ⟨h1, h2⟩, rfl, ?_⟩⟩
    rw [Plain.body_pos t h, Plain.neg_cons, show (c == 45) = false by simpa using h]; simp
  · exact said_no (fun g => h1 ((Plain.good_pos h h48).1 g)) rfl
theorem said_neg {c : Int} {t : List Int} {e : Ending} (h48 : c ≠ 48) (he : Ends (c :: t) 9223372036854775808 (-1) e) : Said (45 :: c :: t) e := by
  rcases he with ⟨h1, h2, rfl⟩ | ⟨h1, rfl⟩
  · refine ⟨_, _, rfl, .inl ⟨(Plain.good_neg h48).2 ⟨h1, h2⟩, rfl, ?_⟩⟩
    rw [Plain.body_neg, Plain.neg_cons]; simp
  · exact said_no (fun g => h1 ((Plain.good_neg h48).1 g)) rfl

theorem bytes_at {zs : List Int} (h : ∀ c ∈ zs, 0 ≤ c ∧ c ≤ 255) (i : Nat) : 0 ≤ zs[i]?.getD 0 ∧ zs[i]?.getD 0 ≤ 255 := by
  by_cases hi : i < zs.length
  · exact h _ (mem_at hi)
  · rw [List.getElem?_eq_none (by omega)]; simp

/-- What a parser is told of its row: it lies behind the slice's address. -/
def Lies (w : World) (a : Option Addr) (zs : List Int) : Prop :=
  zs = [] ∨ ∃ b off, a = some ⟨b, off, none⟩ ∧ ∀ i, i < zs.length → w.cell? ⟨b, off + i, none⟩ = some (.int .u8 (zs.getD i 0))

/-- 'resp.ParseInteger', for every row of bytes. -/
theorem parse_said (a : Option Addr) (len cap : Nat) (zs : List Int) (w : World) (hlen : zs.length = len) (hcap : len ≤ cap) (hm : cap ≤ maxLen)
    (hl : Lies w a zs) (hw : ∀ c ∈ zs, 0 ≤ c ∧ c ≤ 255) :
    Calls Try.prog 7 #[.slice a len cap] w fun e w' => Said zs e ∧ w' = w := by
  subst hlen
  match zs, hl with
  | [], _ => exact (parse_none a cap w).mono fun e w' ⟨he, hww⟩ => ⟨said_no Plain.not_good_nil he, hww⟩
  | c :: t, hl =>
    rcases hl with h | ⟨b, off, rfl, hcell⟩
    · cases h
    have hc0 : w.cell? ⟨b, off, none⟩ = some (.int .u8 c) := by simpa using hcell 0 (by simp)
    by_cases h45 : c = 45
    · subst h45
      match t with
      | [] => exact (parse_dash b off cap w (by simpa using hcap) hc0).mono fun e w' ⟨he, hww⟩ => ⟨said_no Plain.not_good_dash he, hww⟩
      | d :: t =>
        have hc1 : w.cell? ⟨b, off + 1, none⟩ = some (.int .u8 d) := by simpa using hcell 1 (by simp)
        have hd := hw d (by simp)
        have hcells : ∀ i, i < (d :: t).length → w.cell? ⟨b, off + 1 + i, none⟩ = some (.int .u8 ((d :: t).getD i 0)) := by
          intro i hi
          have := hcell (i + 1) (by simpa using hi)
          rw [show off + 1 + i = off + (i + 1) by omega, this]
          simp
        by_cases hbad : 19 < (d :: t).length ∨ d < 49 ∨ 57 < d
        · refine (parse_neg_no b off cap (d :: t).length d w (by simp) (by simpa using hcap) hm hc0 hc1 hbad).mono fun e w' ⟨he, hww⟩ => ⟨said_no ?_ he, hww⟩
          by_cases h48 : d = 48
          · subst h48; exact Plain.not_good_neg_zero t
          · intro g
            have g' := (Plain.good_neg h48).1 g
            have h1 := g'.1.cons
            rcases hbad with h | h | h
            · exact too_long g'.1 (by simpa using h48) h (Int.le_refl _) g'
            · omega
            · omega
        · have h1 : ¬ 19 < (d :: t).length := fun h => hbad (.inl h)
          have h2 : ¬ d < 49 := fun h => hbad (.inr (.inl h))
          have h3 : ¬ 57 < d := fun h => hbad (.inr (.inr h))
          exact (parse_neg b off cap (d :: t).length d (d :: t) w (by simp) rfl (by simpa using hcap) hm hc0 hc1 hcells (bytes_at fun c hc => hw c (List.mem_cons_of_mem _ hc)) (by omega) (by omega) (by omega)).mono
            fun e w' ⟨he, hww⟩ => ⟨said_neg (by omega) he, hww⟩
    · by_cases hz : (c :: t).length = 1 ∧ c = 48
      · obtain ⟨h1, rfl⟩ := hz
        have ht : t = [] := by simpa using h1
        subst ht
        exact (parse_zero b off cap w hc0).mono fun e w' ⟨he, hww⟩ => ⟨⟨_, _, he, Plain.pint_zero⟩, hww⟩
      · by_cases hbad : 19 < (c :: t).length ∨ c < 49 ∨ 57 < c
        · refine (parse_pos_no b off cap (c :: t).length c w (by simp) hcap hm hc0 h45 hz hbad).mono fun e w' ⟨he, hww⟩ => ⟨said_no ?_ he, hww⟩
          by_cases h48 : c = 48
          · subst h48
            exact Plain.not_good_zero (fun h => hz (by simp [h]))
          · intro g
            have g' := (Plain.good_pos h45 h48).1 g
            have h1 := g'.1.cons
            rcases hbad with h | h | h
            · exact too_long g'.1 (by simpa using h48) h (by decide) g'
            · omega
            · omega
        · have h1 : ¬ 19 < (c :: t).length := fun h => hbad (.inl h)
          have h2 : ¬ c < 49 := fun h => hbad (.inr (.inl h))
          have h3 : ¬ 57 < c := fun h => hbad (.inr (.inr h))
          exact (parse_pos b off cap (c :: t).length c (c :: t) w (by simp) rfl hcap hm hc0 hcell (bytes_at hw) (by omega) (by omega) (by omega)).mono
            fun e w' ⟨he, hww⟩ => ⟨said_pos h45 (by omega) he, hww⟩

/-- 'zzModelParse', for every row of bytes. -/
theorem model_said (a : Option Addr) (len cap : Nat) (zs : List Int) (w : World) (hlen : zs.length = len) (hcap : len ≤ cap) (hm : cap ≤ maxLen)
    (hl : Lies w a zs) (hw : ∀ c ∈ zs, 0 ≤ c ∧ c ≤ 255) :
    Calls Try.prog 6 #[.slice a len cap] w fun e w' => Said zs e ∧ w' = w := by
  subst hlen
  match zs, hl with
  | [], _ => exact (model_none a cap w).mono fun e w' ⟨he, hww⟩ => ⟨said_no Plain.not_good_nil he, hww⟩
  | c :: t, hl =>
    rcases hl with h | ⟨b, off, rfl, hcell⟩
    · cases h
    have hc0 : w.cell? ⟨b, off, none⟩ = some (.int .u8 c) := by simpa using hcell 0 (by simp)
    by_cases h45 : c = 45
    · subst h45
      match t with
      | [] => exact (model_dash b off cap w hc0).mono fun e w' ⟨he, hww⟩ => ⟨said_no Plain.not_good_dash he, hww⟩
      | d :: t =>
        have hc1 : w.cell? ⟨b, off + 1, none⟩ = some (.int .u8 d) := by simpa using hcell 1 (by simp)
        have hd := hw d (by simp)
        have hcells : ∀ i, i < (d :: t).length → w.cell? ⟨b, off + (i + 1), none⟩ = some (.int .u8 ((d :: t).getD i 0)) := by
          intro i hi
          have := hcell (i + 1) (by simpa using hi)
          rw [this]
          simp
        have hcells2 : ∀ i, i < (d :: t).length → w.cell? ⟨b, off + (1 + i), none⟩ = some (.int .u8 ((d :: t).getD i 0)) := by
          intro i hi
          rw [Nat.add_comm 1 i]
          exact hcells i hi
        have hby := bytes_at (zs := d :: t) fun c hc => hw c (List.mem_cons_of_mem _ hc)
        by_cases h48 : d = 48
        · subst h48
          exact (model_zero_neg b off cap (48 :: t).length (48 :: t) w (by simp) rfl (by simpa using hcap) hm hc0 hc1 hcells hby).mono
            fun e w' ⟨he, hww⟩ => ⟨said_no (Plain.not_good_neg_zero t) he, hww⟩
        · exact (model_neg b off cap (d :: t).length d (d :: t) w (by simp) rfl (by simpa using hcap) hm rfl hc0 hc1 hcells hcells2 hby (by simpa using h48)).mono
            fun e w' ⟨he, hww⟩ => ⟨said_neg h48 he, hww⟩
    · by_cases h48 : c = 48
      · subst h48
        refine (model_zero_pos b off cap (48 :: t).length (48 :: t) w (by simp) rfl hcap hm hc0 hcell (bytes_at hw)).mono fun e w' ⟨he, hww⟩ => ⟨?_, hww⟩
        rcases he with ⟨he, h⟩ | ⟨he, h⟩
        · refine said_no (fun g => ?_) he
          rcases h with h | h
          · have := g.1
            rw [Plain.body_pos t h45] at this
            exact h this
          · exact Plain.not_good_zero (fun ht => h (by simp [ht])) g
        · have ht : t = [] := by simpa using h
          subst ht
          exact ⟨_, _, he, Plain.pint_zero⟩
      · exact (model_pos b off cap (c :: t).length c (c :: t) w (by simp) rfl hcap hm rfl hc0 hcell (bytes_at hw) (by simpa using h45) (by simpa using h48)).mono
          fun e w' ⟨he, hww⟩ => ⟨said_pos h45 h48 he, hww⟩
end Go.Proofs.Qxb6628469a
