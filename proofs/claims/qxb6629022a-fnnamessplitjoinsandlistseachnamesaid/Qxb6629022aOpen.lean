/-
  A LIST OF CLASSES THAT CAME IN, OPENED TO ITS CELLS; A LONE CLASS. By an AI agent.
-/
import Derived.Test.Qxb6629022aSplit
import Derived.ProofKit
import Derived.OpenShut
import Derived.Deep.Slices
import Derived.Deep.Strs
namespace Go.Proofs.Qxb6629022a
open Go.ChangeShapes Go.WideShapes Go.ChangeAt Go.RowKit
set_option linter.unusedVariables false

theorem Try.cells30 : Try.prog.cellsOf 30 = 3 := by kernel_rfl
theorem Try.cells27 : Try.prog.cellsOf 27 = 1 := by kernel_rfl
theorem Try.cells9 : Try.prog.cellsOf 9 = 1 := by kernel_rfl

section
variable {H : Type} {enc : TypeId × Value → H} {W : World}

/-- A slice of strings. -/
theorem fees_of {fuel : Nat} {v : Value} {x : DataW H × List MemPlace} (h : DataW.trod enc Try.prog W 0 (fun _ => true) true fuel 27 [v] = some x) :
    ∃ f l c, v = .slice f l c ∧ l ≤ 9223372036854775807 ∧ Fees W f l := by
  rcases Go.Deep.open_strs Try.underlying27 Try.underlying9 Try.cells9 h with ⟨hcs, _⟩ | ⟨a, len, cap, m, Sx, hcs, _, hl, hm, hmm, _, hc⟩
  · cases hcs
    exact ⟨none, 0, 0, rfl, by omega, .inl rfl⟩
  · cases hcs
    have hm' : m = cap := by simpa using hmm
    refine ⟨some a, len, cap, rfl, by unfold maxLen at hm; omega, ?_⟩
    by_cases h0 : len = 0
    · exact .inl h0
    · have hsp : a.spot = none := by
        have := World.cell?_spot (hc 0 (by omega)).1
        simpa [Addr.add] using this
      obtain ⟨b, o, sp⟩ := a
      have hsp : sp = none := hsp
      subst hsp
      refine .inr ⟨b, o, rfl, fun j hj => ⟨Sx j, ?_⟩⟩
      rw [← add_plain]
      exact (hc j (by omega)).1

/-- The three cells of one ClassIn. -/
theorem class_of {fuel : Nat} {cs : List Value} {x : DataW H × List MemPlace} (h : DataW.trod enc Try.prog W 0 (fun _ => true) true fuel 30 cs = some x) :
    ∃ nm cd f l c, cs = [.string nm, .string cd, .slice f l c] ∧ l ≤ 9223372036854775807 ∧ Fees W f l := by
  obtain ⟨y0, y1, y2, n, _, hlen, h0, h1, h2⟩ := Go.Deep.trod_struct3 Try.underlying30 h
  rw [Try.cells30] at hlen
  match cs, hlen with
  | [c0, c1, c2], _ =>
    rw [Try.cells9] at h0 h1
    rw [Try.cells27] at h2
    obtain ⟨nm, e0, _, _⟩ := DataW.trod_string Try.underlying9 h0
    obtain ⟨cd, e1, _, _⟩ := DataW.trod_string Try.underlying9 h1
    simp at e0 e1
    subst e0; subst e1
    obtain ⟨f, l, c, rfl, hl, hf⟩ := fees_of (v := c2) (by simpa using h2)
    exact ⟨nm, cd, f, l, c, rfl, hl, hf⟩

theorem came_of {a : Option Addr} {n cap : Nat} {d : DataW H} {p : List MemPlace} (h : DataW.Trod enc Try.prog W 0 (fun _ => true) true 22 (.slice a n cap) d p) : Came W a n cap := by
  obtain ⟨fuel, hf⟩ := h
  rcases Go.Deep.open_slice Try.underlying22 hf with ⟨hcs, _⟩ | ⟨x, len, cap', m, nf, D, Pl, hcs, _, hl, hm, hmm, _, hel⟩
  · simp [Value.cells] at hcs
    exact .inl hcs
  · simp [Value.cells] at hcs
    obtain ⟨rfl, rfl, rfl⟩ := hcs
    have hm' : m = cap := by simpa using hmm
    subst hm'
    by_cases h0 : n = 0
    · subst h0
      exact .inr ⟨x, 0, 0, fun _ => ByteArray.empty, rfl, .inl rfl, hl, hm, fun i hi => absurd hi (Nat.not_lt_zero i)⟩
    rw [Try.cells30] at hel
    -- every element's cells
    have each : ∀ i, i < m → ∃ nm cd f l c, W.cell? ((x.add (i * 3)).add 0) = some (.string nm) ∧ W.cell? ((x.add (i * 3)).add 1) = some (.string cd) ∧ W.cell? ((x.add (i * 3)).add 2) = some (.slice f l c) ∧ l ≤ 9223372036854775807 ∧ Fees W f l := by
      intro i hi
      obtain ⟨cs', hc, ht⟩ := hel i hi
      obtain ⟨nm, cd, f, l, c, rfl, hl, hF⟩ := class_of ht
      obtain ⟨_, _, hc⟩ := World.cells?_some hc
      exact ⟨nm, cd, f, l, c, hc 0 (by omega), hc 1 (by omega), hc 2 (by omega), hl, hF⟩
    have hsp : x.spot = none := by
      obtain ⟨_, _, _, _, _, h1, _⟩ := each 0 (by omega)
      have := World.cell?_spot h1
      simpa [Addr.add] using this
    obtain ⟨b, o, sp⟩ := x
    have hsp : sp = none := hsp
    subst hsp
    simp only [add_plain, Nat.add_zero] at each
    obtain ⟨Nm, hNm⟩ := Go.Deep.choose_lt each
    exact .inr ⟨_, b, o, Nm, rfl, .inr rfl, hl, hm, fun i hi => by
      obtain ⟨cd, f, l, c, h1, h2, h3, h4, h5⟩ := hNm i (by omega)
      exact ⟨h1, ⟨cd, h2⟩, f, l, c, h3, h4, h5⟩⟩
end
end Go.Proofs.Qxb6629022a
