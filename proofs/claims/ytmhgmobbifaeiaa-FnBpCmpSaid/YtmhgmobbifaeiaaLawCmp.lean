/- 'FnBpCmp' returns true whatever words come in, and what came in reads as it did. No condition. -/
import Derived.Test.YtmhgmobbifaeiaaFnsCmp
namespace Go.Proofs.Ytmhgmobbifaeiaa
open Go.Sym Go.ChangeShapes Go.WideShapes Go.ChangeAt Go.RowKit
set_option linter.unusedVariables false

theorem FnBpCmp_own : ownKnob Try.prog.godebug = none := by kernel_rfl
theorem FnBpCmp_cellsArr : Try.prog.cellsOf 23 = 6 := by kernel_rfl
theorem FnBpCmp_cellsWord : Try.prog.cellsOf 22 = 1 := by kernel_rfl

theorem FnBpCmp_walk (ws0 : List Int) (lws0 : ws0.length = 6) (uws0 : u64s ws0) (ws1 : List Int) (lws1 : ws1.length = 6) (uws1 : u64s ws1) (w : World) :
    Calls Try.prog 5 #[.agg (ws0.map (Value.int .u64)).toArray, .agg (ws1.map (Value.int .u64)).toArray] w fun e w' => e = .returned (.bool true) ∧ Below w.heap.size w w' :=
  calls_of_summ Try.func5 (by kernel_rfl) rfl ok_lCmp rfl rfl [.agg ws0, .agg ws1] (.cons ⟨lws0, uws0⟩ (.cons ⟨lws1, uws1⟩ (.nil))) rfl

set_option maxRecDepth 100000 in
theorem FnBpCmp_lifted (os : Os) (started : os.Started) (H : Type) (enc : TypeId × Value → H) :
    ReturnsInHanded {} Try.checked os 5 .any (Rows.fnBpCmpSpec.pre6 enc Try.prog Try.f5 Rows.fnBpCmpRow.domain false) (Rows.fnBpCmpSpec.post enc Try.prog Try.f5 false true false false) := by
  refine returnsInHanded_of_change (C := Try.checked) FnBpCmp_own started (by kernel_rfl) Try.func5
    (ChangeSpec.witness6 (enc := enc) (C := Try.checked) false ⟨#[], #[.agg #[.int .u64 0, .int .u64 0, .int .u64 0, .int .u64 0, .int .u64 0, .int .u64 0], .agg #[.int .u64 0, .int .u64 0, .int .u64 0, .int .u64 0, .int .u64 0, .int .u64 0]], []⟩ 8 (by kernel_rfl) (by kernel_rfl) (by kernel_rfl) (by kernel_rfl)) ?_
  intro W base args ds gs before hval0 hW hcnd _
  have hval : ∀ (j : Nat) t v, Try.f5.params[j]? = some t → args[j]? = some v → Value.okWide Try.prog W .any base t v := hval0
  have hW' := hW
  obtain ⟨p, q, hA0, hV, rfl, hfz, hnd⟩ := hW
  have hA : DataW.TrodAll enc Try.prog W 0 (fun _ => true) true Try.f5.params.toList args.toList ds p := hA0
  rw [Try.params5] at hA hval
  obtain ⟨v0, vs0, d0, ds0, p0, q0, hargs, rfl, rfl, h0, r0⟩ := trodAll_cons hA
  obtain ⟨v1, vs1, d1, ds1, p1, q1, rfl, rfl, rfl, h1, r1⟩ := trodAll_cons r0
  obtain ⟨rfl, rfl, rfl⟩ := trodAll_nil r1
  obtain rfl : args = #[v0, v1] := by cases args; simp_all
  obtain ⟨rfl, rfl⟩ := trodVars_none hV
  obtain ⟨ws0, rfl, rfl, rfl, lws0, uws0⟩ := open_words Try.underlying23 Try.underlying22 FnBpCmp_cellsArr FnBpCmp_cellsWord (hval 0 23 v0 rfl rfl) h0
  obtain ⟨ws1, rfl, rfl, rfl, lws1, uws1⟩ := open_words Try.underlying23 Try.underlying22 FnBpCmp_cellsArr FnBpCmp_cellsWord (hval 1 23 v1 rfl rfl) h1
  clear hA0 hval0
  simp only [List.append_nil] at hW'
  refine (FnBpCmp_walk ws0 lws0 uws0 ws1 lws1 uws1 W).mono fun e W' ⟨he, hg⟩ => ?_
  subst he
  exact ⟨_, rfl, post_of_below (pa := []) (pv := []) hW' (fun _ _ _ => (trodAll_cons_mk (shut_bool Try.underlying4 _) trodAll_mk0)) (fun sp _ => (trodAll_cons_mk (shut_words Try.underlying23 Try.underlying22 FnBpCmp_cellsArr FnBpCmp_cellsWord lws0 uws0) (trodAll_cons_mk (shut_words Try.underlying23 Try.underlying22 FnBpCmp_cellsArr FnBpCmp_cellsWord lws1 uws1) trodAll_mk0))) (fun _ _ => rfl) rfl
    hg (Go.RowKit.ok_one (by kernel_rfl) rfl (okWide_bool_mk Try.underlying4 _))⟩

theorem FnBpCmp_proved : Rows.FnBpCmpSaid :=
  OpenClaim.holds_of_wide 5 Try.f5 rfl rfl rfl rfl rfl rfl rfl ⟨rfl, rfl, rfl, rfl, rfl⟩ rfl rfl rfl rfl rfl (by kernel_rfl) Try.func5 (by kernel_rfl)
    (of_decide_eq_true (by kernel_rfl)) (by unfold Func.isWrapper; first | (rw [if_pos (by decide +kernel)]; kernel_rfl) | (rw [if_neg (by decide +kernel)]; exact ⟨rfl, rfl⟩))
    (fun os started H enc _ => FnBpCmp_lifted os started H enc)

end Go.Proofs.Ytmhgmobbifaeiaa
