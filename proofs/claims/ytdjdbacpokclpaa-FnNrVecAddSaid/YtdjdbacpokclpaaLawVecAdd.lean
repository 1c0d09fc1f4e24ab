/- 'FnNrVecAdd' returns true whatever two vectors come in, and what came in reads as it did. No condition. -/
import Derived.Test.YtdjdbacpokclpaaVecVecAdd
namespace Go.Proofs.Ytdjdbacpokclpaa
open Go.ChangeShapes Go.WideShapes Go.ChangeAt Go.RowKit
set_option linter.unusedVariables false

theorem FnNrVecAdd_own : ownKnob Try.prog.godebug = none := by kernel_rfl
theorem FnNrVecAdd_cellsArr : Try.prog.cellsOf 26 = 4 := by kernel_rfl
theorem FnNrVecAdd_cellsWord : Try.prog.cellsOf 25 = 1 := by kernel_rfl

set_option maxRecDepth 100000 in
theorem FnNrVecAdd_lifted (os : Os) (started : os.Started) (H : Type) (enc : TypeId × Value → H) :
    ReturnsInHanded {} Try.checked os 3 .any (Rows.fnNrVecAddSpec.pre6 enc Try.prog Try.f3 Rows.fnNrVecAddRow.domain false) (Rows.fnNrVecAddSpec.post enc Try.prog Try.f3 false true false false) := by
  refine returnsInHanded_of_change (C := Try.checked) FnNrVecAdd_own started (by kernel_rfl) Try.func3
    (ChangeSpec.witness6 (enc := enc) (C := Try.checked) false ⟨#[], #[.slice none 0 0, .slice none 0 0], []⟩ 8 (by kernel_rfl) (by kernel_rfl) (by kernel_rfl) (by kernel_rfl)) ?_
  intro W base args ds gs before hval0 hW hcnd _
  have hval : ∀ (j : Nat) t v, Try.f3.params[j]? = some t → args[j]? = some v → Value.okWide Try.prog W .any base t v := hval0
  have hW' := hW
  obtain ⟨p, q, hA0, hV, rfl, hfz, hnd⟩ := hW
  have hA : DataW.TrodAll enc Try.prog W 0 (fun _ => true) true Try.f3.params.toList args.toList ds p := hA0
  rw [Try.params3] at hA hval
  obtain ⟨v0, vs0, d0, ds0, p0, q0, hargs, rfl, rfl, h0, r0⟩ := trodAll_cons hA
  obtain ⟨v1, vs1, d1, ds1, p1, q1, rfl, rfl, rfl, h1, r1⟩ := trodAll_cons r0
  obtain ⟨rfl, rfl, rfl⟩ := trodAll_nil r1
  obtain rfl : args = #[v0, v1] := by cases args; simp_all
  obtain ⟨rfl, rfl⟩ := trodVars_none hV
  obtain ⟨A, lenA, capA, a, rfl, la, ua, hAt, shA⟩ := Go.Sym.open_vec Try.underlying22 Try.underlying26 Try.underlying25 FnNrVecAdd_cellsArr FnNrVecAdd_cellsWord (by decide) (hval 0 22 v0 rfl rfl) h0
  obtain ⟨B, lenB, capB, b, rfl, lb, ub, hBt, shB⟩ := Go.Sym.open_vec Try.underlying22 Try.underlying26 Try.underlying25 FnNrVecAdd_cellsArr FnNrVecAdd_cellsWord (by decide) (hval 1 22 v1 rfl rfl) h1
  clear hA0 hval0
  refine (law_walk A B lenA lenB capA capB a b W la lb ua ub hAt hBt).mono fun e W' ⟨he, hg⟩ => ?_
  subst he
  exact ⟨_, rfl, Go.Sym.post_of_below (pv := []) hW' (fun _ _ _ => (trodAll_cons_mk (shut_bool Try.underlying4 _) trodAll_mk0))
    (fun sp hsp => trodAll_cons_mk (shA W' hg sp fun z hz => hsp z (by simp [hz])) (trodAll_cons_mk (shB W' hg sp fun z hz => hsp z (by simp [hz])) trodAll_mk0)) (fun _ _ => rfl) rfl
    hg (Go.RowKit.ok_one (by kernel_rfl) rfl (okWide_bool_mk Try.underlying4 _))⟩

theorem FnNrVecAdd_proved : Rows.FnNrVecAddSaid :=
  OpenClaim.holds_of_wide 3 Try.f3 rfl rfl rfl rfl rfl rfl rfl ⟨rfl, rfl, rfl, rfl, rfl⟩ rfl rfl rfl rfl rfl (by kernel_rfl) Try.func3 (by kernel_rfl)
    (of_decide_eq_true (by kernel_rfl)) (by unfold Func.isWrapper; first | (rw [if_pos (by decide +kernel)]; kernel_rfl) | (rw [if_neg (by decide +kernel)]; exact ⟨rfl, rfl⟩))
    (fun os started H enc _ => FnNrVecAdd_lifted os started H enc)

end Go.Proofs.Ytdjdbacpokclpaa
