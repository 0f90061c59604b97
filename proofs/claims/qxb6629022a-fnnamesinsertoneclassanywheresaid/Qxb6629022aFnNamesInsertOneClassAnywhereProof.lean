/-
  THE PROOF OF 'Rows.FnNamesInsertOneClassAnywhereSaid'. The frame is after the kit's own shells (howto/shells); the walk is ours. By an AI agent.
-/
import Derived.Test.Qxb6629022aRows
import Derived.Test.Qxb6629022aOpen
import Derived.Test.Qxb6629022aInsert
import Derived.WalkKit
import Derived.ProofKit
import Derived.OpenShut
import Derived.ShutString
import Derived.ChangeOld
import Derived.Below
namespace Go.Proofs.Qxb6629022a.fnNamesInsertOneClassAnywhere
open Go.ChangeShapes Go.WideShapes Go.ChangeAt Go.RowKit
set_option linter.unusedVariables false

theorem own : ownKnob Try.prog.godebug = none := by kernel_rfl
theorem laidOut : laidOutB Try.prog = true := by kernel_rfl

/-- A ClassIn by value. -/
theorem lone_of {H : Type} {enc : TypeId × Value → H} {W : World} {r : Reach} {b0 : Nat} {v : Value} {d : DataW H} {p : List MemPlace} (hv : Value.okWide Try.prog W r b0 30 v) (h : DataW.Trod enc Try.prog W 0 (fun _ => true) true 30 v d p) :
    ∃ nm cd f l c, v = .agg #[.string nm, .string cd, .slice f l c] ∧ l ≤ 9223372036854775807 ∧ Fees W f l := by
  obtain ⟨cs, rfl, hsz⟩ := okWide_struct Try.underlying30 hv
  obtain ⟨fuel, hf⟩ := h
  obtain ⟨nm, cd, f, l, c, hcs, hl, hF⟩ := class_of hf
  refine ⟨nm, cd, f, l, c, ?_, hl, hF⟩
  have e : cs.toList = [.string nm, .string cd, .slice f l c] := by simpa [Value.cells] using hcs
  rw [show cs = #[.string nm, .string cd, .slice f l c] from Array.toList_inj.1 (by simpa using e)]

/-- The walk, whatever came in. -/
theorem walk (a : Option Addr) (n cap : Nat) (k : Int) (en ec : ByteArray) (ef : Option Addr) (el ecap : Nat) (w : World) (h : Came w a n cap) (hel : el ≤ 9223372036854775807) (HE : Fees w ef el) :
    Calls Try.prog 4 #[.slice a n cap, .int .i64 k, .agg #[.string en, .string ec, .slice ef el ecap]] w fun e w' => e = .returned (.bool true) ∧ Below w.heap.size w w' := by
  rcases h with ⟨rfl, rfl, rfl⟩ | ⟨x, b, o, Nm, rfl, hx, hcap, hm, hC⟩
  · exact insert_main none 0 0 0 0 (fun _ => rfl) (.inl rfl) k (fun _ => ByteArray.empty) en ec ef el ecap w (by omega) (by unfold maxLen; omega) (fun i hi => absurd hi (Nat.not_lt_zero i)) hel HE
  · exact insert_main (some x) b o n cap (fun h => by cases h) (here hx) k Nm en ec ef el ecap w hcap hm hC hel HE

set_option maxRecDepth 100000 in
theorem lifted (os : Os) (started : os.Started) (H : Type) (enc : TypeId × Value → H) :
    ReturnsInHanded {} Try.checked os 4 .any (Rows.fnNamesInsertOneClassAnywhereSpec.pre6 enc Try.prog Try.f4 Rows.fnNamesInsertOneClassAnywhereRow.domain false) (Rows.fnNamesInsertOneClassAnywhereSpec.post enc Try.prog Try.f4 false true false false) := by
  refine returnsInHanded_of_change (C := Try.checked) own started (by kernel_rfl) Try.func4
    (ChangeSpec.witness6 (enc := enc) (C := Try.checked) false ⟨#[], #[.slice none 0 0, .int .i64 0, .agg #[.string ByteArray.empty, .string ByteArray.empty, .slice none 0 0]], []⟩ 8 (by kernel_rfl) (by kernel_rfl) (by kernel_rfl) (by kernel_rfl)) ?_
  intro W base args ds gs before hval0 hW hcnd _
  have hval : ∀ (j : Nat) t v, Try.f4.params[j]? = some t → args[j]? = some v → Value.okWide Try.prog W .any base t v := hval0
  have hW' := hW
  obtain ⟨p, q, hA0, hV, rfl, hfz, hnd⟩ := hW
  have hA : DataW.TrodAll enc Try.prog W 0 (fun _ => true) true Try.f4.params.toList args.toList ds p := hA0
  rw [Try.params4] at hA hval
  obtain ⟨v0, vs0, d0, ds0, p0, q0, hargs, rfl, rfl, h0, r0⟩ := trodAll_cons hA
  obtain ⟨v1, vs1, d1, ds1, p1, q1, rfl, rfl, rfl, h1, r1⟩ := trodAll_cons r0
  obtain ⟨v2, vs2, d2, ds2, p2, q2, rfl, rfl, rfl, h2, r2⟩ := trodAll_cons r1
  obtain ⟨rfl, rfl, rfl⟩ := trodAll_nil r2
  obtain rfl : args = #[v0, v1, v2] := by cases args; simp_all
  obtain ⟨rfl, rfl⟩ := trodVars_none hV
  obtain ⟨a0, len0, cap0, rfl⟩ := okWide_slice Try.underlying22 (hval 0 22 v0 rfl rfl)
  obtain ⟨a1, rfl, rfl, rfl, w1⟩ := open_int Try.underlying3 (hval 1 3 v1 rfl rfl) h1
  obtain ⟨en, ec, ef, el, ecap, rfl, hel, hE⟩ := lone_of (hval 2 30 v2 rfl rfl) h2
  have k0 := h0
  have k2 := h2
  have lt0 : ∀ x ∈ p0, x.block < W.heap.size := by obtain ⟨m, hm⟩ := k0; exact DataW.trod_lt m _ _ _ hm
  have lt2 : ∀ x ∈ p2, x.block < W.heap.size := by obtain ⟨m, hm⟩ := k2; exact DataW.trod_lt m _ _ _ hm
  have came := came_of h0
  clear hA0 hval0
  refine (walk a0 len0 cap0 a1 en ec ef el ecap W came hel hE).mono fun e W' ⟨he, bel⟩ => ?_
  subst he
  exact ⟨_, rfl, _, _, _, [], _, [], hW', trodAll_mk1 (shut_bool Try.underlying4 _), (trodAll_cons_mk (Below.trod laidOut (by kernel_rfl) (of_decide_eq_true (by kernel_rfl)) k0 bel lt0) (trodAll_cons_mk (shut_int Try.underlying3 w1) (trodAll_cons_mk (Below.trod laidOut (by kernel_rfl) (of_decide_eq_true (by kernel_rfl)) k2 bel lt2) trodAll_mk0))), rfl, bel.frame _, fun h => by cases h⟩

theorem over : Rows.fnNamesInsertOneClassAnywhereRow.holds Try.pinned (OpenSpec.ofChange Rows.fnNamesInsertOneClassAnywhereSpec) :=
  OpenClaim.holds_of_wide 4 Try.f4 rfl rfl rfl rfl rfl rfl rfl ⟨rfl, rfl, rfl, rfl, rfl⟩ rfl rfl rfl rfl rfl (by kernel_rfl) Try.func4 (by kernel_rfl)
    (of_decide_eq_true (by kernel_rfl)) (by unfold Func.isWrapper; first | (rw [if_pos (by decide +kernel)]; kernel_rfl) | (rw [if_neg (by decide +kernel)]; exact ⟨rfl, rfl⟩))
    (fun os started H enc _ => lifted os started H enc)

/-- THE STATEMENT. -/
theorem proved : Rows.FnNamesInsertOneClassAnywhereSaid := over
end Go.Proofs.Qxb6629022a.fnNamesInsertOneClassAnywhere
