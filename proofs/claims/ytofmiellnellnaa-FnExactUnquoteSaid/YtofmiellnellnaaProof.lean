/-
  For every kind and every usage, the law FnExactUnquote returns true and its arguments read as before: the name in a usage is what stands between its first two back quotes, and a word for the kind without them.
  Conditions: none.
-/
import Derived.Test.YtofmiellnellnaaRows
import Derived.Test.YtofmiellnellnaaWalkD
import Derived.Lay
import Derived.ProofKit
import Derived.OpenShut
import Derived.ShutString
import Derived.ChangeOld
namespace Go.Proofs.Ytofmiellnellnaa
open Go.ChangeShapes Go.WideShapes Go.ChangeAt Go.RowKit
open Go.ChangeMaps (open_string shut_string)
set_option linter.unusedVariables false
theorem own : ownKnob Try.prog.godebug = none := by kernel_rfl
/-- A start that fits: no new block, kind 0, the empty usage. -/
abbrev inp : Input := ⟨#[], #[.int .i64 0, .string ByteArray.empty], []⟩
theorem shaped (os : Os) : (World.plainHolding Try.checked.prog os inp).Shaped Try.checked.prog :=
  World.shaped_of_ZipB (by kernel_rfl) (by kernel_rfl)
theorem start (os : Os) (H : Type) (enc : TypeId × Value → H) :
    ∃ (w : World) (tape : Tape) (i : Input), w.os = os ∧ (w.forCall tape i).Shaped Try.checked.prog ∧ i.vars = [] ∧ Input.okWide Try.checked.prog (w.forCall tape i) .any w.heap.size 3 i ∧
      Rows.fnExactUnquoteSpec.pre6 enc Try.checked.prog Try.f3 Rows.fnExactUnquoteRow.domain false (w.forCall tape i).memory i.args ∧ ({} : Assume).holds Try.checked.prog (lone (Frame.enter Try.checked.prog 3 i.args .normal) [] (w.forCall tape i)) := by
  have hok : Input.okWideB Try.checked.prog (World.plainHolding Try.checked.prog os inp) 3 ⟨#[], inp.args, []⟩ = true := by kernel_rfl
  have hpre : Rows.fnExactUnquoteSpec.preB enc Try.checked.prog Try.f3 Rows.fnExactUnquoteRow.domain false (World.plainHolding Try.checked.prog os inp).memory inp.args 8 = true := by kernel_rfl
  have hsz : Rows.fnExactUnquoteSpec.sizedB enc Try.checked.prog Try.f3 false (World.plainHolding Try.checked.prog os inp).memory inp.args 8 = true := by kernel_rfl
  exact ⟨World.holding Try.checked.prog os inp, fun _ _ => 0, ⟨#[], inp.args, []⟩, rfl, shaped os, (Input.okWide_of_okWideB (base := 0) hok).1, (Input.okWide_of_okWideB hok).2, ⟨ChangeSpec.pre_of_preB hpre, sizedMet_of_sizedB hsz⟩, by
    simp only [Assume.holds]
    exact ⟨by simp, by simp, fun _ => Modest.zero, by simp, by simp⟩⟩
set_option maxRecDepth 100000 in
theorem lifted (os : Os) (started : os.Started) (H : Type) (enc : TypeId × Value → H) :
    ReturnsInHanded {} Try.checked os 3 .any (Rows.fnExactUnquoteSpec.pre6 enc Try.prog Try.f3 Rows.fnExactUnquoteRow.domain false) (Rows.fnExactUnquoteSpec.post enc Try.prog Try.f3 false true false false) := by
  refine returnsInHanded_of_change (C := Try.checked) own started (by kernel_rfl) Try.func3 (start os H enc) ?_
  intro W base args ds gs before hval0 hW hcnd _
  have hval : ∀ (j : Nat) t v, Try.f3.params[j]? = some t → args[j]? = some v → Value.okWide Try.prog W .any base t v := hval0
  have hW' := hW
  obtain ⟨p, q, hA0, hV, rfl, hfz, hnd⟩ := hW
  have hA : DataW.TrodAll enc Try.prog W 0 (fun _ => true) true Try.f3.params.toList args.toList ds p := hA0
  rw [Try.params3] at hA hval
  obtain ⟨v0, vs0, d0, ds0, p0, q0, hargs, rfl, rfl, h0, r0⟩ := trodAll_cons hA
  obtain ⟨v1, vs1, d1, ds1, p1, q1, rfl, rfl, rfl, h1, r1⟩ := trodAll_cons r0
  obtain ⟨rfl, rfl, rfl⟩ := trodAll_nil r1
  obtain rfl : args = #[v0, v1] := by cases args; simp_all
  obtain ⟨rfl, rfl⟩ := trodVars_none hV
  obtain ⟨a0, rfl, rfl, rfl, w0⟩ := open_int Try.underlying3 (hval 0 3 v0 rfl rfl) h0
  obtain ⟨a1, rfl, rfl, rfl, w1⟩ := open_string Try.underlying9 (hval 1 9 v1 rfl rfl) h1
  clear hA0 hval0
  simp only [List.append_nil] at hW'
  refine (walk a0 a1 W w1).mono fun e W' ⟨he, bel⟩ => ?_
  subst he
  exact ⟨_, rfl, _, _, _, [], [], [], hW', trodAll_cons_mk (shut_bool Try.underlying4 _) trodAll_mk0, trodAll_cons_mk (shut_int Try.underlying3 w0) (trodAll_cons_mk (shut_string Try.underlying9 w1) trodAll_mk0), rfl, bel.frame _, fun h => by cases h⟩
theorem over : Rows.fnExactUnquoteRow.holds Try.pinned (OpenSpec.ofChange Rows.fnExactUnquoteSpec) :=
  OpenClaim.holds_of_wide 3 Try.f3 rfl rfl rfl rfl rfl rfl rfl ⟨rfl, rfl, rfl, rfl, rfl⟩ rfl rfl rfl rfl rfl (by kernel_rfl) Try.func3 (by kernel_rfl)
    (of_decide_eq_true (by kernel_rfl)) (by unfold Func.isWrapper; first | (rw [if_pos (by decide +kernel)]; kernel_rfl) | (rw [if_neg (by decide +kernel)]; exact ⟨rfl, rfl⟩))
    (fun os started H enc _ => lifted os started H enc)
/-- The given statement. -/
theorem fnExactUnquote_holds : Rows.FnExactUnquoteSaid := over
#print axioms fnExactUnquote_holds
end Go.Proofs.Ytofmiellnellnaa
