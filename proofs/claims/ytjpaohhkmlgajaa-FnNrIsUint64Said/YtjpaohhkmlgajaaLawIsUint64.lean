/- 'FnNrIsUint64' returns true whatever words come in, and what came in reads as it did. No condition. -/
import Derived.Test.YtjpaohhkmlgajaaFnsIsUint64
namespace Go.Proofs.Ytjpaohhkmlgajaa
open Go.Sym Go.ChangeShapes Go.WideShapes Go.ChangeAt Go.RowKit
set_option linter.unusedVariables false

theorem FnNrIsUint64_own : ownKnob Try.prog.godebug = none := by kernel_rfl
theorem FnNrIsUint64_cellsArr : Try.prog.cellsOf 23 = 4 := by kernel_rfl
theorem FnNrIsUint64_cellsWord : Try.prog.cellsOf 22 = 1 := by kernel_rfl

theorem FnNrIsUint64_walk (ws0 : List Int) (lws0 : ws0.length = 4) (uws0 : u64s ws0) (w : World) :
    Calls Try.prog 4 #[.agg (ws0.map (Value.int .u64)).toArray] w fun e w' => e = .returned (.bool true) ∧ Below w.heap.size w w' :=
  calls_of_summ Try.func4 (by kernel_rfl) rfl ok_lIsUint64 rfl rfl [.agg ws0] (.cons ⟨lws0, uws0⟩ (.nil)) rfl

set_option maxRecDepth 100000 in
theorem FnNrIsUint64_lifted (os : Os) (started : os.Started) (H : Type) (enc : TypeId × Value → H) :
    ReturnsInHanded {} Try.checked os 4 .any (Rows.fnNrIsUint64Spec.pre6 enc Try.prog Try.f4 Rows.fnNrIsUint64Row.domain false) (Rows.fnNrIsUint64Spec.post enc Try.prog Try.f4 false true false false) := by
  refine returnsInHanded_of_change (C := Try.checked) FnNrIsUint64_own started (by kernel_rfl) Try.func4
    (ChangeSpec.witness6 (enc := enc) (C := Try.checked) false ⟨#[], #[.agg #[.int .u64 0, .int .u64 0, .int .u64 0, .int .u64 0]], []⟩ 8 (by kernel_rfl) (by kernel_rfl) (by kernel_rfl) (by kernel_rfl)) ?_
  intro W base args ds gs before hval0 hW hcnd _
  have hval : ∀ (j : Nat) t v, Try.f4.params[j]? = some t → args[j]? = some v → Value.okWide Try.prog W .any base t v := hval0
  have hW' := hW
  obtain ⟨p, q, hA0, hV, rfl, hfz, hnd⟩ := hW
  have hA : DataW.TrodAll enc Try.prog W 0 (fun _ => true) true Try.f4.params.toList args.toList ds p := hA0
  rw [Try.params4] at hA hval
  obtain ⟨v0, vs0, d0, ds0, p0, q0, hargs, rfl, rfl, h0, r0⟩ := trodAll_cons hA
  obtain ⟨rfl, rfl, rfl⟩ := trodAll_nil r0
  obtain rfl : args = #[v0] := by cases args; simp_all
  obtain ⟨rfl, rfl⟩ := trodVars_none hV
  obtain ⟨ws0, rfl, rfl, rfl, lws0, uws0⟩ := open_words Try.underlying23 Try.underlying22 FnNrIsUint64_cellsArr FnNrIsUint64_cellsWord (hval 0 23 v0 rfl rfl) h0
  clear hA0 hval0
  simp only [List.append_nil] at hW'
  refine (FnNrIsUint64_walk ws0 lws0 uws0 W).mono fun e W' ⟨he, hg⟩ => ?_
  subst he
  exact ⟨_, rfl, post_of_below (pa := []) (pv := []) hW' (fun _ _ _ => (trodAll_cons_mk (shut_bool Try.underlying4 _) trodAll_mk0)) (fun sp _ => (trodAll_cons_mk (shut_words Try.underlying23 Try.underlying22 FnNrIsUint64_cellsArr FnNrIsUint64_cellsWord lws0 uws0) trodAll_mk0)) (fun _ _ => rfl) rfl
    hg (Go.RowKit.ok_one (by kernel_rfl) rfl (okWide_bool_mk Try.underlying4 _))⟩

theorem FnNrIsUint64_proved : Rows.FnNrIsUint64Said :=
  OpenClaim.holds_of_wide 4 Try.f4 rfl rfl rfl rfl rfl rfl rfl ⟨rfl, rfl, rfl, rfl, rfl⟩ rfl rfl rfl rfl rfl (by kernel_rfl) Try.func4 (by kernel_rfl)
    (of_decide_eq_true (by kernel_rfl)) (by unfold Func.isWrapper; first | (rw [if_pos (by decide +kernel)]; kernel_rfl) | (rw [if_neg (by decide +kernel)]; exact ⟨rfl, rfl⟩))
    (fun os started H enc _ => FnNrIsUint64_lifted os started H enc)

end Go.Proofs.Ytjpaohhkmlgajaa
