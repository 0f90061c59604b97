/-
  THE PLAIN MATHEMATICS OF A CANONICAL DECIMAL TEXT OF AN int64: no Go in sight.
  'val': what a row of digit bytes reads as. 'pok', 'pv': is the text canonical, and its value (0 where it is not).
-/
namespace Go.Proofs.Qxb6628469a.Plain

def val (l : List Int) : Int := l.foldl (fun u c => u * 10 + (c - 48)) 0
def Digs (l : List Int) : Prop := ∀ c ∈ l, 48 ≤ c ∧ c ≤ 57
def neg (l : List Int) : Bool := l.head? == some 45
def body (l : List Int) : List Int := if neg l then l.tail else l
def lim (b : Bool) : Int := if b then 9223372036854775808 else 9223372036854775807
/-- The text is canonical. -/
def Good (l : List Int) : Prop :=
  Digs (body l) ∧ body l ≠ [] ∧ ((body l).head? = some 48 → l = [48]) ∧ val (body l) ≤ lim (neg l)
/-- The text's answer. -/
def pint (l : List Int) (v : Int) (ok : Bool) : Prop :=
  (Good l ∧ ok = true ∧ v = if neg l then - val (body l) else val (body l)) ∨ (¬ Good l ∧ ok = false ∧ v = 0)

theorem pint_fun {l : List Int} {v v' : Int} {ok ok' : Bool} (h : pint l v ok) (h' : pint l v' ok') : v = v' ∧ ok = ok' := by
  rcases h with ⟨g, rfl, rfl⟩ | ⟨g, rfl, rfl⟩ <;> rcases h' with ⟨g', rfl, rfl⟩ | ⟨g', rfl, rfl⟩
  · exact ⟨rfl, rfl⟩
  · exact absurd g g'
  · exact absurd g' g
  · exact ⟨rfl, rfl⟩

/-! ### val -/
theorem val_nil : val [] = 0 := rfl
theorem val_snoc (l : List Int) (c : Int) : val (l ++ [c]) = val l * 10 + (c - 48) := by simp [val]
theorem foldl_from (l : List Int) : ∀ u : Int, l.foldl (fun u c => u * 10 + (c - 48)) u = u * 10 ^ l.length + val l := by
  induction l with
  | nil => intro u; simp [val]
  | cons c l ih =>
    intro u
    have h1 := ih (u * 10 + (c - 48))
    have h2 := ih (0 * 10 + (c - 48))
    simp only [List.foldl_cons, val, List.length_cons] at h1 h2 ⊢
    rw [h1, h2, Int.pow_succ]
    have e : u * (10 ^ l.length * 10) = u * 10 * 10 ^ l.length := by rw [Int.mul_comm (10 ^ l.length) 10, Int.mul_assoc]
    rw [Int.add_mul, e]
    simp
    omega
theorem val_append (p s : List Int) : val (p ++ s) = val p * 10 ^ s.length + val s := by
  have := foldl_from s (val p)
  simp only [val, List.foldl_append] at this ⊢
  exact this
theorem val_cons (c : Int) (l : List Int) : val (c :: l) = (c - 48) * 10 ^ l.length + val l := by
  have := val_append [c] l
  simpa [val] using this
theorem Digs.cons {c : Int} {l : List Int} (h : Digs (c :: l)) : 48 ≤ c ∧ c ≤ 57 ∧ Digs l :=
  ⟨(h c (by simp)).1, (h c (by simp)).2, fun d hd => h d (by simp [hd])⟩
theorem Digs.left {p s : List Int} (h : Digs (p ++ s)) : Digs p := fun d hd => h d (by simp [hd])
theorem Digs.right {p s : List Int} (h : Digs (p ++ s)) : Digs s := fun d hd => h d (by simp [hd])
theorem pow_pos' (n : Nat) : (1 : Int) ≤ 10 ^ n := by
  have : (0 : Int) < 10 ^ n := Int.pow_pos (by decide)
  omega
theorem val_bd (l : List Int) (h : Digs l) : 0 ≤ val l ∧ val l + 1 ≤ 10 ^ l.length := by
  induction l with
  | nil => simp [val]
  | cons c l ih =>
    obtain ⟨h1, h2, h3⟩ := h.cons
    obtain ⟨g1, g2⟩ := ih h3
    have hp := pow_pos' l.length
    rw [val_cons, List.length_cons, Int.pow_succ]
    generalize (10 : Int) ^ l.length = P at *
    have k1 : 0 ≤ (c - 48) * P := Int.mul_nonneg (by omega) (by omega)
    have k2 : (c - 48) * P ≤ 9 * P := Int.mul_le_mul_of_nonneg_right (by omega) (by omega)
    omega
theorem val_lo (c : Int) (l : List Int) (h : Digs l) (hc : 49 ≤ c) : 10 ^ l.length ≤ val (c :: l) := by
  have hp := pow_pos' l.length
  have g := (val_bd l h).1
  rw [val_cons]
  have k2 : 1 * (10 : Int) ^ l.length ≤ (c - 48) * 10 ^ l.length := Int.mul_le_mul_of_nonneg_right (by omega) (by omega)
  omega
theorem pow_mono (a b : Nat) (h : a ≤ b) : (10 : Int) ^ a ≤ 10 ^ b := by
  obtain ⟨k, rfl⟩ := Nat.exists_eq_add_of_le h
  rw [Int.pow_add]
  have h1 := pow_pos' a
  have h2 := pow_pos' k
  have : (10 : Int) ^ a * 1 ≤ 10 ^ a * 10 ^ k := Int.mul_le_mul_of_nonneg_left h2 (by omega)
  omega
/-- A row of at most 18 digits reads below 10^18; of at most 19 below 10^19. -/
theorem val_18 (l : List Int) (h : Digs l) (n : l.length ≤ 18) : 0 ≤ val l ∧ val l ≤ 999999999999999999 := by
  have := val_bd l h
  have := pow_mono l.length 18 n
  have e : (10 : Int) ^ 18 = 1000000000000000000 := by decide
  omega
theorem val_19 (l : List Int) (h : Digs l) (n : l.length ≤ 19) : 0 ≤ val l ∧ val l ≤ 9999999999999999999 := by
  have := val_bd l h
  have := pow_mono l.length 19 n
  have e : (10 : Int) ^ 19 = 10000000000000000000 := by decide
  omega
/-- Twenty digits or more that do not open with 0 are too great. -/
theorem val_20 (c : Int) (l : List Int) (h : Digs l) (hc : 49 ≤ c) (n : 19 ≤ l.length) : 10000000000000000000 ≤ val (c :: l) := by
  have := val_lo c l h hc
  have := pow_mono 19 l.length n
  have e : (10 : Int) ^ 19 = 10000000000000000000 := by decide
  omega
/-- Two rows of digits of one length that part at one place first. -/
theorem val_lt (p s t : List Int) (c d : Int) (hs : Digs s) (ht : Digs t) (n : s.length = t.length) (h : c < d) : val (p ++ c :: s) < val (p ++ d :: t) := by
  have b1 := val_bd s hs
  have b2 := val_bd t ht
  rw [val_append, val_append, val_cons, val_cons, List.length_cons, List.length_cons, n]
  rw [n] at b1
  have hp := pow_pos' t.length
  generalize (10 : Int) ^ t.length = P at *
  have e : (d - 48) * P - (c - 48) * P = (d - c) * P := by rw [← Int.sub_mul]; congr 1; omega
  have k2 : 1 * P ≤ (d - c) * P := Int.mul_le_mul_of_nonneg_right (by omega) (by omega)
  omega
end Go.Proofs.Qxb6628469a.Plain
