/- The functions of the seat Ytopoffodlfnejaa, each once: its ways through the text, and what it comes to in numbers. Written by a program (gen.py). -/
import Derived.Test.YtopoffodlfnejaaSymU
import Derived.Test.YtopoffodlfnejaaSymZ
import Derived.Test.YtopoffodlfnejaaRows
set_option linter.unusedVariables false
set_option linter.unusedSimpArgs false
set_option maxRecDepth 4000
namespace Go.Proofs.Ytopoffodlfnejaa
open Go.Sym

def q : Int := 52435875175126190479447740508185965837690552500527637822603658699938581184513
def r : Int := 10920338887063814464675503992315976177888879664585288394250266608035967270910

def Phi : Nat → List Int → List Int
  | 9 => lessF 4
  | 13 => sameF 4
  | 10 => primeF 4 q
  | 30 => plusF 4
  | 29 => lessenF 4
  | 27 => addWF 4
  | 17 => subWF 4
  | 15 => setF 4 1
  | 21 => timesF 4
  | 38 => setF 4 0
  | 44 => setF 4 r
  | 25 => zeroF
  | 26 => isF 4 r
  | 41 => smallF q
  | 31 => eaddF 4 q
  | 32 => esubF 4 q
  | 42 => edblF 4 q
  | 28 => enegF 4 q
  | 37 => setF 4 r
  | 33 => mul5F 4 q
  | 24 => setF 4 r
  | 11 => zeroF
  | 12 => isF 4 r
  | 18 => aaddF 4 q
  | 19 => asubF 4 q
  | 16 => anegF 4 q
  | 20 => mul5F 4 q
  | 4 => fun _ => [1]
  | 5 => fun _ => [1]
  | 6 => fun _ => [1]
  | 8 => fun _ => [1]
  | 3 => fun _ => [1]
  | 40 => add64F
  | 39 => sub64F
  | 14 => shiftF 4
  | _ => fun _ => []

theorem ok_add64 : SummOK Try.prog 40 addSub (Phi 40) := summ_add64 Try.func40 (by kernel_rfl) (by kernel_rfl) (by kernel_rfl) (by kernel_rfl)

theorem ok_sub64 : SummOK Try.prog 39 addSub (Phi 39) := summ_sub64 Try.func39 (by kernel_rfl) (by kernel_rfl) (by kernel_rfl) (by kernel_rfl)

/-! ### less -/
def su_less : Summ := ⟨[.slc 4, .slc 4], none, [.sc .bool]⟩
def t_less0 : CT := .node (.v 8)
  (.leaf ⟨[(9, .bool, .cmp .lss (.v 3) (.v 7)),
    (8, .bool, .cmp .neq (.v 3) (.v 7))],
    [(.v 8, true)], [.v 9]⟩)
  (.node (.v 9)
  (.leaf ⟨[(10, .bool, .cmp .lss (.v 2) (.v 6)),
    (9, .bool, .cmp .neq (.v 2) (.v 6)),
    (8, .bool, .cmp .neq (.v 3) (.v 7))],
    [(.v 9, true), (.v 8, false)], [.v 10]⟩)
  (.node (.v 10)
  (.leaf ⟨[(11, .bool, .cmp .lss (.v 1) (.v 5)),
    (10, .bool, .cmp .neq (.v 1) (.v 5)),
    (9, .bool, .cmp .neq (.v 2) (.v 6)),
    (8, .bool, .cmp .neq (.v 3) (.v 7))],
    [(.v 10, true), (.v 9, false), (.v 8, false)], [.v 11]⟩)
  (.node (.v 11)
  (.leaf ⟨[(12, .bool, .cmp .lss (.v 0) (.v 4)),
    (11, .bool, .cmp .neq (.v 0) (.v 4)),
    (10, .bool, .cmp .neq (.v 1) (.v 5)),
    (9, .bool, .cmp .neq (.v 2) (.v 6)),
    (8, .bool, .cmp .neq (.v 3) (.v 7))],
    [(.v 11, true), (.v 10, false), (.v 9, false), (.v 8, false)], [.v 12]⟩)
  (.leaf ⟨[(11, .bool, .cmp .neq (.v 0) (.v 4)),
    (10, .bool, .cmp .neq (.v 1) (.v 5)),
    (9, .bool, .cmp .neq (.v 2) (.v 6)),
    (8, .bool, .cmp .neq (.v 3) (.v 7))],
    [(.v 11, false), (.v 10, false), (.v 9, false), (.v 8, false)], [.c 0]⟩))))
theorem chk_less : checkFn Try.prog [] su_less 400 Try.f9 (fun _ => t_less0) = true := by kernel_rfl
theorem ok_less : SummOK Try.prog 9 su_less (Phi 9) := by
  refine summ_fn (Φ := Phi) 400 (fun _ => t_less0) Try.func9 tbl_nil chk_less ?_
  intro al hal l hl ρ hk hs ha
  have hn : su_less.inKinds.length = 8 := rfl
  have hr : row ρ 8 = [ρ 0, ρ 1, ρ 2, ρ 3, ρ 4, ρ 5, ρ 6, ρ 7] := rfl
  rw [hn, hr] at hk ⊢
  simp only [su_less, Summ.inKinds, List.flatMap_cons, List.flatMap_nil, List.replicate, List.cons_append, List.nil_append, List.append_nil, holdsAll, K.holds] at hk
  obtain ⟨b0, b1, b2, b3, b4, b5, b6, b7, _⟩ := hk
  simp only [t_less0, CT.leaves, List.cons_append, List.nil_append, List.mem_cons, List.not_mem_nil, or_false] at hl
  rcases hl with rfl | rfl | rfl | rfl | rfl
  · simp only [satTr_cons, satTr_nil, sv_lss, sv_leq, sv_gtr, sv_geq, sv_eql, sv_neq, sv_not, sv_beq, sv_pick, sv_add, sv_sub, sv_fn, sv_eqs, E.den, List.map, K.holds] at hs
    simp only [asrOK_cons, asrOK_nil, if_true, if_false, Bool.false_eq_true, E.den] at ha
    obtain ⟨⟨h9, k9⟩, ⟨h8, k8⟩, _⟩ := hs
    obtain ⟨a0, _⟩ := ha
    refine dec_one (p := val [ρ 0, ρ 1, ρ 2, ρ 3] < val [ρ 4, ρ 5, ρ 6, ρ 7]) (z := ρ 9) ?_
    simp only [val, q, List.cons.injEq, and_true]
    omega
  · simp only [satTr_cons, satTr_nil, sv_lss, sv_leq, sv_gtr, sv_geq, sv_eql, sv_neq, sv_not, sv_beq, sv_pick, sv_add, sv_sub, sv_fn, sv_eqs, E.den, List.map, K.holds] at hs
    simp only [asrOK_cons, asrOK_nil, if_true, if_false, Bool.false_eq_true, E.den] at ha
    obtain ⟨⟨h10, k10⟩, ⟨h9, k9⟩, ⟨h8, k8⟩, _⟩ := hs
    obtain ⟨a0, a1, _⟩ := ha
    refine dec_one (p := val [ρ 0, ρ 1, ρ 2, ρ 3] < val [ρ 4, ρ 5, ρ 6, ρ 7]) (z := ρ 10) ?_
    simp only [val, q, List.cons.injEq, and_true]
    omega
  · simp only [satTr_cons, satTr_nil, sv_lss, sv_leq, sv_gtr, sv_geq, sv_eql, sv_neq, sv_not, sv_beq, sv_pick, sv_add, sv_sub, sv_fn, sv_eqs, E.den, List.map, K.holds] at hs
    simp only [asrOK_cons, asrOK_nil, if_true, if_false, Bool.false_eq_true, E.den] at ha
    obtain ⟨⟨h11, k11⟩, ⟨h10, k10⟩, ⟨h9, k9⟩, ⟨h8, k8⟩, _⟩ := hs
    obtain ⟨a0, a1, a2, _⟩ := ha
    refine dec_one (p := val [ρ 0, ρ 1, ρ 2, ρ 3] < val [ρ 4, ρ 5, ρ 6, ρ 7]) (z := ρ 11) ?_
    simp only [val, q, List.cons.injEq, and_true]
    omega
  · simp only [satTr_cons, satTr_nil, sv_lss, sv_leq, sv_gtr, sv_geq, sv_eql, sv_neq, sv_not, sv_beq, sv_pick, sv_add, sv_sub, sv_fn, sv_eqs, E.den, List.map, K.holds] at hs
    simp only [asrOK_cons, asrOK_nil, if_true, if_false, Bool.false_eq_true, E.den] at ha
    obtain ⟨⟨h12, k12⟩, ⟨h11, k11⟩, ⟨h10, k10⟩, ⟨h9, k9⟩, ⟨h8, k8⟩, _⟩ := hs
    obtain ⟨a0, a1, a2, a3, _⟩ := ha
    refine dec_one (p := val [ρ 0, ρ 1, ρ 2, ρ 3] < val [ρ 4, ρ 5, ρ 6, ρ 7]) (z := ρ 12) ?_
    simp only [val, q, List.cons.injEq, and_true]
    omega
  · simp only [satTr_cons, satTr_nil, sv_lss, sv_leq, sv_gtr, sv_geq, sv_eql, sv_neq, sv_not, sv_beq, sv_pick, sv_add, sv_sub, sv_fn, sv_eqs, E.den, List.map, K.holds] at hs
    simp only [asrOK_cons, asrOK_nil, if_true, if_false, Bool.false_eq_true, E.den] at ha
    obtain ⟨⟨h11, k11⟩, ⟨h10, k10⟩, ⟨h9, k9⟩, ⟨h8, k8⟩, _⟩ := hs
    obtain ⟨a0, a1, a2, a3, _⟩ := ha
    refine dec_one (p := val [ρ 0, ρ 1, ρ 2, ρ 3] < val [ρ 4, ρ 5, ρ 6, ρ 7]) (z := 0) ?_
    simp only [val, q, List.cons.injEq, and_true]
    omega

/-! ### same -/
def su_same : Summ := ⟨[.slc 4, .slc 4], none, [.sc .bool]⟩
def t_same0 : CT := .node (.v 8)
  (.leaf ⟨[(8, .bool, .cmp .neq (.v 0) (.v 4))],
    [(.v 8, true)], [.c 0]⟩)
  (.node (.v 9)
  (.leaf ⟨[(9, .bool, .cmp .neq (.v 1) (.v 5)),
    (8, .bool, .cmp .neq (.v 0) (.v 4))],
    [(.v 9, true), (.v 8, false)], [.c 0]⟩)
  (.node (.v 10)
  (.leaf ⟨[(10, .bool, .cmp .neq (.v 2) (.v 6)),
    (9, .bool, .cmp .neq (.v 1) (.v 5)),
    (8, .bool, .cmp .neq (.v 0) (.v 4))],
    [(.v 10, true), (.v 9, false), (.v 8, false)], [.c 0]⟩)
  (.node (.v 11)
  (.leaf ⟨[(11, .bool, .cmp .neq (.v 3) (.v 7)),
    (10, .bool, .cmp .neq (.v 2) (.v 6)),
    (9, .bool, .cmp .neq (.v 1) (.v 5)),
    (8, .bool, .cmp .neq (.v 0) (.v 4))],
    [(.v 11, true), (.v 10, false), (.v 9, false), (.v 8, false)], [.c 0]⟩)
  (.leaf ⟨[(11, .bool, .cmp .neq (.v 3) (.v 7)),
    (10, .bool, .cmp .neq (.v 2) (.v 6)),
    (9, .bool, .cmp .neq (.v 1) (.v 5)),
    (8, .bool, .cmp .neq (.v 0) (.v 4))],
    [(.v 11, false), (.v 10, false), (.v 9, false), (.v 8, false)], [.c 1]⟩))))
theorem chk_same : checkFn Try.prog [] su_same 400 Try.f13 (fun _ => t_same0) = true := by kernel_rfl
theorem ok_same : SummOK Try.prog 13 su_same (Phi 13) := by
  refine summ_fn (Φ := Phi) 400 (fun _ => t_same0) Try.func13 tbl_nil chk_same ?_
  intro al hal l hl ρ hk hs ha
  have hn : su_same.inKinds.length = 8 := rfl
  have hr : row ρ 8 = [ρ 0, ρ 1, ρ 2, ρ 3, ρ 4, ρ 5, ρ 6, ρ 7] := rfl
  rw [hn, hr] at hk ⊢
  simp only [su_same, Summ.inKinds, List.flatMap_cons, List.flatMap_nil, List.replicate, List.cons_append, List.nil_append, List.append_nil, holdsAll, K.holds] at hk
  obtain ⟨b0, b1, b2, b3, b4, b5, b6, b7, _⟩ := hk
  simp only [t_same0, CT.leaves, List.cons_append, List.nil_append, List.mem_cons, List.not_mem_nil, or_false] at hl
  rcases hl with rfl | rfl | rfl | rfl | rfl
  · simp only [satTr_cons, satTr_nil, sv_lss, sv_leq, sv_gtr, sv_geq, sv_eql, sv_neq, sv_not, sv_beq, sv_pick, sv_add, sv_sub, sv_fn, sv_eqs, E.den, List.map, K.holds] at hs
    simp only [asrOK_cons, asrOK_nil, if_true, if_false, Bool.false_eq_true, E.den] at ha
    obtain ⟨⟨h8, k8⟩, _⟩ := hs
    obtain ⟨a0, _⟩ := ha
    refine dec_one (p := [ρ 0, ρ 1, ρ 2, ρ 3] = [ρ 4, ρ 5, ρ 6, ρ 7]) (z := 0) ?_
    simp only [val, q, List.cons.injEq, and_true]
    omega
  · simp only [satTr_cons, satTr_nil, sv_lss, sv_leq, sv_gtr, sv_geq, sv_eql, sv_neq, sv_not, sv_beq, sv_pick, sv_add, sv_sub, sv_fn, sv_eqs, E.den, List.map, K.holds] at hs
    simp only [asrOK_cons, asrOK_nil, if_true, if_false, Bool.false_eq_true, E.den] at ha
    obtain ⟨⟨h9, k9⟩, ⟨h8, k8⟩, _⟩ := hs
    obtain ⟨a0, a1, _⟩ := ha
    refine dec_one (p := [ρ 0, ρ 1, ρ 2, ρ 3] = [ρ 4, ρ 5, ρ 6, ρ 7]) (z := 0) ?_
    simp only [val, q, List.cons.injEq, and_true]
    omega
  · simp only [satTr_cons, satTr_nil, sv_lss, sv_leq, sv_gtr, sv_geq, sv_eql, sv_neq, sv_not, sv_beq, sv_pick, sv_add, sv_sub, sv_fn, sv_eqs, E.den, List.map, K.holds] at hs
    simp only [asrOK_cons, asrOK_nil, if_true, if_false, Bool.false_eq_true, E.den] at ha
    obtain ⟨⟨h10, k10⟩, ⟨h9, k9⟩, ⟨h8, k8⟩, _⟩ := hs
    obtain ⟨a0, a1, a2, _⟩ := ha
    refine dec_one (p := [ρ 0, ρ 1, ρ 2, ρ 3] = [ρ 4, ρ 5, ρ 6, ρ 7]) (z := 0) ?_
    simp only [val, q, List.cons.injEq, and_true]
    omega
  · simp only [satTr_cons, satTr_nil, sv_lss, sv_leq, sv_gtr, sv_geq, sv_eql, sv_neq, sv_not, sv_beq, sv_pick, sv_add, sv_sub, sv_fn, sv_eqs, E.den, List.map, K.holds] at hs
    simp only [asrOK_cons, asrOK_nil, if_true, if_false, Bool.false_eq_true, E.den] at ha
    obtain ⟨⟨h11, k11⟩, ⟨h10, k10⟩, ⟨h9, k9⟩, ⟨h8, k8⟩, _⟩ := hs
    obtain ⟨a0, a1, a2, a3, _⟩ := ha
    refine dec_one (p := [ρ 0, ρ 1, ρ 2, ρ 3] = [ρ 4, ρ 5, ρ 6, ρ 7]) (z := 0) ?_
    simp only [val, q, List.cons.injEq, and_true]
    omega
  · simp only [satTr_cons, satTr_nil, sv_lss, sv_leq, sv_gtr, sv_geq, sv_eql, sv_neq, sv_not, sv_beq, sv_pick, sv_add, sv_sub, sv_fn, sv_eqs, E.den, List.map, K.holds] at hs
    simp only [asrOK_cons, asrOK_nil, if_true, if_false, Bool.false_eq_true, E.den] at ha
    obtain ⟨⟨h11, k11⟩, ⟨h10, k10⟩, ⟨h9, k9⟩, ⟨h8, k8⟩, _⟩ := hs
    obtain ⟨a0, a1, a2, a3, _⟩ := ha
    refine dec_one (p := [ρ 0, ρ 1, ρ 2, ρ 3] = [ρ 4, ρ 5, ρ 6, ρ 7]) (z := 1) ?_
    simp only [val, q, List.cons.injEq, and_true]
    omega

/-! ### prime -/
def su_prime : Summ := ⟨[], none, [.slc 4]⟩
def t_prime0 : CT := .leaf ⟨[],
    [], [.c 18446744069414584321, .c 6034159408538082302, .c 3691218898639771653, .c 8353516859464449352]⟩
theorem chk_prime : checkFn Try.prog [] su_prime 400 Try.f10 (fun _ => t_prime0) = true := by kernel_rfl
theorem ok_prime : SummOK Try.prog 10 su_prime (Phi 10) := by
  refine summ_fn (Φ := Phi) 400 (fun _ => t_prime0) Try.func10 tbl_nil chk_prime ?_
  intro al hal l hl ρ hk hs ha
  have hn : su_prime.inKinds.length = 0 := rfl
  have hr : row ρ 0 = [] := rfl
  rw [hn, hr] at hk ⊢
  simp only [su_prime, Summ.inKinds, List.flatMap_cons, List.flatMap_nil, List.replicate, List.cons_append, List.nil_append, List.append_nil, holdsAll, K.holds] at hk
  simp only [t_prime0, CT.leaves, List.cons_append, List.nil_append, List.mem_cons, List.not_mem_nil, or_false] at hl
  subst hl
  simp only [satTr_cons, satTr_nil, sv_lss, sv_leq, sv_gtr, sv_geq, sv_eql, sv_neq, sv_not, sv_beq, sv_pick, sv_add, sv_sub, sv_fn, sv_eqs, E.den, List.map, K.holds] at hs
  simp only [asrOK_cons, asrOK_nil, if_true, if_false, Bool.false_eq_true, E.den] at ha
  clear hs
  clear ha
  change wds 4 q = [18446744069414584321, 6034159408538082302, 3691218898639771653, 8353516859464449352]
  kernel_rfl

/-! ### plus -/
def su_plus : Summ := ⟨[.slc 4, .slc 4], none, [.slc 4, .sc .bool]⟩
def t_plus0 : CT := .leaf ⟨[(32, .bool, .cmp .eql (.v 31) (.c 1)),
    (31, .i .u64, .pick (.v 30) (.c 1) (.c 0)),
    (30, .bool, .pick (.v 27) (.c 1) (.v 29)),
    (29, .bool, .cmp .lss (.v 28) (.v 26)),
    (28, .i .u64, .bin .add .u64 (.v 26) (.v 7)),
    (27, .bool, .cmp .lss (.v 26) (.v 25)),
    (26, .i .u64, .bin .add .u64 (.v 3) (.v 25)),
    (25, .i .u64, .pick (.v 24) (.c 1) (.c 0)),
    (24, .bool, .pick (.v 21) (.c 1) (.v 23)),
    (23, .bool, .cmp .lss (.v 22) (.v 20)),
    (22, .i .u64, .bin .add .u64 (.v 20) (.v 6)),
    (21, .bool, .cmp .lss (.v 20) (.v 19)),
    (20, .i .u64, .bin .add .u64 (.v 2) (.v 19)),
    (19, .i .u64, .pick (.v 18) (.c 1) (.c 0)),
    (18, .bool, .pick (.v 15) (.c 1) (.v 17)),
    (17, .bool, .cmp .lss (.v 16) (.v 14)),
    (16, .i .u64, .bin .add .u64 (.v 14) (.v 5)),
    (15, .bool, .cmp .lss (.v 14) (.v 13)),
    (14, .i .u64, .bin .add .u64 (.v 1) (.v 13)),
    (13, .i .u64, .pick (.v 12) (.c 1) (.c 0)),
    (12, .bool, .pick (.v 9) (.c 1) (.v 11)),
    (11, .bool, .cmp .lss (.v 10) (.v 8)),
    (10, .i .u64, .bin .add .u64 (.v 8) (.v 4)),
    (9, .bool, .cmp .lss (.v 8) (.c 0)),
    (8, .i .u64, .bin .add .u64 (.v 0) (.c 0))],
    [], [.v 10, .v 16, .v 22, .v 28, .v 32]⟩
theorem chk_plus : checkFn Try.prog [] su_plus 400 Try.f30 (fun _ => t_plus0) = true := by kernel_rfl
theorem ok_plus : SummOK Try.prog 30 su_plus (Phi 30) := by
  refine summ_fn (Φ := Phi) 400 (fun _ => t_plus0) Try.func30 tbl_nil chk_plus ?_
  intro al hal l hl ρ hk hs ha
  have hn : su_plus.inKinds.length = 8 := rfl
  have hr : row ρ 8 = [ρ 0, ρ 1, ρ 2, ρ 3, ρ 4, ρ 5, ρ 6, ρ 7] := rfl
  rw [hn, hr] at hk ⊢
  simp only [su_plus, Summ.inKinds, List.flatMap_cons, List.flatMap_nil, List.replicate, List.cons_append, List.nil_append, List.append_nil, holdsAll, K.holds] at hk
  obtain ⟨b0, b1, b2, b3, b4, b5, b6, b7, _⟩ := hk
  simp only [t_plus0, CT.leaves, List.cons_append, List.nil_append, List.mem_cons, List.not_mem_nil, or_false] at hl
  subst hl
  simp only [satTr_cons, satTr_nil, sv_lss, sv_leq, sv_gtr, sv_geq, sv_eql, sv_neq, sv_not, sv_beq, sv_pick, sv_add, sv_sub, sv_fn, sv_eqs, E.den, List.map, K.holds] at hs
  simp only [asrOK_cons, asrOK_nil, if_true, if_false, Bool.false_eq_true, E.den] at ha
  obtain ⟨⟨h32, k32⟩, ⟨h31, k31⟩, ⟨h30, k30⟩, ⟨h29, k29⟩, ⟨h28, k28⟩, ⟨h27, k27⟩, ⟨h26, k26⟩, ⟨h25, k25⟩, ⟨h24, k24⟩, ⟨h23, k23⟩, ⟨h22, k22⟩, ⟨h21, k21⟩, ⟨h20, k20⟩, ⟨h19, k19⟩, ⟨h18, k18⟩, ⟨h17, k17⟩, ⟨h16, k16⟩, ⟨h15, k15⟩, ⟨h14, k14⟩, ⟨h13, k13⟩, ⟨h12, k12⟩, ⟨h11, k11⟩, ⟨h10, k10⟩, ⟨h9, k9⟩, ⟨h8, k8⟩, _⟩ := hs
  clear ha
  obtain ⟨r0, c0⟩ := plus_round b0 b4 (.inl rfl) h8 h9 h10 h11 h12 h13
  obtain ⟨r1, c1⟩ := plus_round b1 b5 c0 h14 h15 h16 h17 h18 h19
  obtain ⟨r2, c2⟩ := plus_round b2 b6 c1 h20 h21 h22 h23 h24 h25
  obtain ⟨r3, c3⟩ := plus_round b3 b7 c2 h26 h27 h28 h29 h30 h31
  clear h8 h9 h10 h11 h12 h13 h14 h15 h16 h17 h18 h19 h20 h21 h22 h23 h24 h25 h26 h27 h28 h29 h30 h31
  refine plus_done (n := 4) (a := [ρ 0, ρ 1, ρ 2, ρ 3]) (b := [ρ 4, ρ 5, ρ 6, ρ 7]) (s := [ρ 10, ρ 16, ρ 22, ρ 28]) (c := ρ 31) (d := ρ 32) (u64s_cons k10 (u64s_cons k16 (u64s_cons k22 (u64s_cons k28 u64s_nil)))) rfl ?_ c3 h32
  simp only [val, big]
  omega

/-! ### lessen -/
def su_lessen : Summ := ⟨[.slc 4, .slc 4], none, [.slc 4, .sc .bool]⟩
def t_lessen0 : CT := .leaf ⟨[(32, .bool, .cmp .eql (.v 31) (.c 1)),
    (31, .i .u64, .pick (.v 30) (.c 1) (.c 0)),
    (30, .bool, .pick (.v 27) (.c 1) (.v 29)),
    (29, .bool, .cmp .lss (.v 26) (.v 7)),
    (28, .i .u64, .bin .sub .u64 (.v 26) (.v 7)),
    (27, .bool, .cmp .lss (.v 3) (.v 25)),
    (26, .i .u64, .bin .sub .u64 (.v 3) (.v 25)),
    (25, .i .u64, .pick (.v 24) (.c 1) (.c 0)),
    (24, .bool, .pick (.v 21) (.c 1) (.v 23)),
    (23, .bool, .cmp .lss (.v 20) (.v 6)),
    (22, .i .u64, .bin .sub .u64 (.v 20) (.v 6)),
    (21, .bool, .cmp .lss (.v 2) (.v 19)),
    (20, .i .u64, .bin .sub .u64 (.v 2) (.v 19)),
    (19, .i .u64, .pick (.v 18) (.c 1) (.c 0)),
    (18, .bool, .pick (.v 15) (.c 1) (.v 17)),
    (17, .bool, .cmp .lss (.v 14) (.v 5)),
    (16, .i .u64, .bin .sub .u64 (.v 14) (.v 5)),
    (15, .bool, .cmp .lss (.v 1) (.v 13)),
    (14, .i .u64, .bin .sub .u64 (.v 1) (.v 13)),
    (13, .i .u64, .pick (.v 12) (.c 1) (.c 0)),
    (12, .bool, .pick (.v 9) (.c 1) (.v 11)),
    (11, .bool, .cmp .lss (.v 8) (.v 4)),
    (10, .i .u64, .bin .sub .u64 (.v 8) (.v 4)),
    (9, .bool, .cmp .lss (.v 0) (.c 0)),
    (8, .i .u64, .bin .sub .u64 (.v 0) (.c 0))],
    [], [.v 10, .v 16, .v 22, .v 28, .v 32]⟩
theorem chk_lessen : checkFn Try.prog [] su_lessen 400 Try.f29 (fun _ => t_lessen0) = true := by kernel_rfl
theorem ok_lessen : SummOK Try.prog 29 su_lessen (Phi 29) := by
  refine summ_fn (Φ := Phi) 400 (fun _ => t_lessen0) Try.func29 tbl_nil chk_lessen ?_
  intro al hal l hl ρ hk hs ha
  have hn : su_lessen.inKinds.length = 8 := rfl
  have hr : row ρ 8 = [ρ 0, ρ 1, ρ 2, ρ 3, ρ 4, ρ 5, ρ 6, ρ 7] := rfl
  rw [hn, hr] at hk ⊢
  simp only [su_lessen, Summ.inKinds, List.flatMap_cons, List.flatMap_nil, List.replicate, List.cons_append, List.nil_append, List.append_nil, holdsAll, K.holds] at hk
  obtain ⟨b0, b1, b2, b3, b4, b5, b6, b7, _⟩ := hk
  simp only [t_lessen0, CT.leaves, List.cons_append, List.nil_append, List.mem_cons, List.not_mem_nil, or_false] at hl
  subst hl
  simp only [satTr_cons, satTr_nil, sv_lss, sv_leq, sv_gtr, sv_geq, sv_eql, sv_neq, sv_not, sv_beq, sv_pick, sv_add, sv_sub, sv_fn, sv_eqs, E.den, List.map, K.holds] at hs
  simp only [asrOK_cons, asrOK_nil, if_true, if_false, Bool.false_eq_true, E.den] at ha
  obtain ⟨⟨h32, k32⟩, ⟨h31, k31⟩, ⟨h30, k30⟩, ⟨h29, k29⟩, ⟨h28, k28⟩, ⟨h27, k27⟩, ⟨h26, k26⟩, ⟨h25, k25⟩, ⟨h24, k24⟩, ⟨h23, k23⟩, ⟨h22, k22⟩, ⟨h21, k21⟩, ⟨h20, k20⟩, ⟨h19, k19⟩, ⟨h18, k18⟩, ⟨h17, k17⟩, ⟨h16, k16⟩, ⟨h15, k15⟩, ⟨h14, k14⟩, ⟨h13, k13⟩, ⟨h12, k12⟩, ⟨h11, k11⟩, ⟨h10, k10⟩, ⟨h9, k9⟩, ⟨h8, k8⟩, _⟩ := hs
  clear ha
  obtain ⟨r0, c0⟩ := lessen_round b0 b4 (.inl rfl) h8 h9 h10 h11 h12 h13
  obtain ⟨r1, c1⟩ := lessen_round b1 b5 c0 h14 h15 h16 h17 h18 h19
  obtain ⟨r2, c2⟩ := lessen_round b2 b6 c1 h20 h21 h22 h23 h24 h25
  obtain ⟨r3, c3⟩ := lessen_round b3 b7 c2 h26 h27 h28 h29 h30 h31
  clear h8 h9 h10 h11 h12 h13 h14 h15 h16 h17 h18 h19 h20 h21 h22 h23 h24 h25 h26 h27 h28 h29 h30 h31
  refine lessen_done (n := 4) (a := [ρ 0, ρ 1, ρ 2, ρ 3]) (b := [ρ 4, ρ 5, ρ 6, ρ 7]) (s := [ρ 10, ρ 16, ρ 22, ρ 28]) (c := ρ 31) (d := ρ 32) (u64s_cons k10 (u64s_cons k16 (u64s_cons k22 (u64s_cons k28 u64s_nil)))) rfl ?_ c3 h32
  simp only [val, big]
  omega

/-! ### addW -/
def su_addW : Summ := ⟨[.slc 4, .slc 4, .slc 4], none, [.slc 4]⟩
def t_addW0 : CT := .node (.v 19)
  (.leaf ⟨[(24, .bool, .fn 29 [.v 12, .v 13, .v 14, .v 15, .v 8, .v 9, .v 10, .v 11] 4),
    (23, .i .u64, .fn 29 [.v 12, .v 13, .v 14, .v 15, .v 8, .v 9, .v 10, .v 11] 3),
    (22, .i .u64, .fn 29 [.v 12, .v 13, .v 14, .v 15, .v 8, .v 9, .v 10, .v 11] 2),
    (21, .i .u64, .fn 29 [.v 12, .v 13, .v 14, .v 15, .v 8, .v 9, .v 10, .v 11] 1),
    (20, .i .u64, .fn 29 [.v 12, .v 13, .v 14, .v 15, .v 8, .v 9, .v 10, .v 11] 0),
    (19, .bool, .pick (.v 16) (.c 1) (.v 18)),
    (18, .bool, .not (.v 17)),
    (17, .bool, .fn 9 [.v 12, .v 13, .v 14, .v 15, .v 8, .v 9, .v 10, .v 11] 0),
    (16, .bool, .fn 30 [.v 0, .v 1, .v 2, .v 3, .v 4, .v 5, .v 6, .v 7] 4),
    (15, .i .u64, .fn 30 [.v 0, .v 1, .v 2, .v 3, .v 4, .v 5, .v 6, .v 7] 3),
    (14, .i .u64, .fn 30 [.v 0, .v 1, .v 2, .v 3, .v 4, .v 5, .v 6, .v 7] 2),
    (13, .i .u64, .fn 30 [.v 0, .v 1, .v 2, .v 3, .v 4, .v 5, .v 6, .v 7] 1),
    (12, .i .u64, .fn 30 [.v 0, .v 1, .v 2, .v 3, .v 4, .v 5, .v 6, .v 7] 0)],
    [(.v 19, true)], [.v 20, .v 21, .v 22, .v 23]⟩)
  (.leaf ⟨[(19, .bool, .pick (.v 16) (.c 1) (.v 18)),
    (18, .bool, .not (.v 17)),
    (17, .bool, .fn 9 [.v 12, .v 13, .v 14, .v 15, .v 8, .v 9, .v 10, .v 11] 0),
    (16, .bool, .fn 30 [.v 0, .v 1, .v 2, .v 3, .v 4, .v 5, .v 6, .v 7] 4),
    (15, .i .u64, .fn 30 [.v 0, .v 1, .v 2, .v 3, .v 4, .v 5, .v 6, .v 7] 3),
    (14, .i .u64, .fn 30 [.v 0, .v 1, .v 2, .v 3, .v 4, .v 5, .v 6, .v 7] 2),
    (13, .i .u64, .fn 30 [.v 0, .v 1, .v 2, .v 3, .v 4, .v 5, .v 6, .v 7] 1),
    (12, .i .u64, .fn 30 [.v 0, .v 1, .v 2, .v 3, .v 4, .v 5, .v 6, .v 7] 0)],
    [(.v 19, false)], [.v 12, .v 13, .v 14, .v 15]⟩)
theorem chk_addW : checkFn Try.prog [(30, su_plus), (29, su_lessen), (9, su_less)] su_addW 400 Try.f27 (fun _ => t_addW0) = true := by kernel_rfl
theorem ok_addW : SummOK Try.prog 27 su_addW (Phi 27) := by
  refine summ_fn (Φ := Phi) 400 (fun _ => t_addW0) Try.func27 (tbl_cons ok_plus (tbl_cons ok_lessen (tbl_cons ok_less tbl_nil))) chk_addW ?_
  intro al hal l hl ρ hk hs ha
  have hn : su_addW.inKinds.length = 12 := rfl
  have hr : row ρ 12 = [ρ 0, ρ 1, ρ 2, ρ 3, ρ 4, ρ 5, ρ 6, ρ 7, ρ 8, ρ 9, ρ 10, ρ 11] := rfl
  rw [hn, hr] at hk ⊢
  simp only [su_addW, Summ.inKinds, List.flatMap_cons, List.flatMap_nil, List.replicate, List.cons_append, List.nil_append, List.append_nil, holdsAll, K.holds] at hk
  obtain ⟨b0, b1, b2, b3, b4, b5, b6, b7, b8, b9, b10, b11, _⟩ := hk
  simp only [t_addW0, CT.leaves, List.cons_append, List.nil_append, List.mem_cons, List.not_mem_nil, or_false] at hl
  rcases hl with rfl | rfl
  · simp only [satTr_cons, satTr_nil, sv_lss, sv_leq, sv_gtr, sv_geq, sv_eql, sv_neq, sv_not, sv_beq, sv_pick, sv_add, sv_sub, sv_fn, sv_eqs, E.den, List.map, K.holds] at hs
    simp only [asrOK_cons, asrOK_nil, if_true, if_false, Bool.false_eq_true, E.den] at ha
    obtain ⟨⟨h24, k24⟩, ⟨h23, k23⟩, ⟨h22, k22⟩, ⟨h21, k21⟩, ⟨h20, k20⟩, ⟨h19, k19⟩, ⟨h18, k18⟩, ⟨h17, k17⟩, ⟨h16, k16⟩, ⟨h15, k15⟩, ⟨h14, k14⟩, ⟨h13, k13⟩, ⟨h12, k12⟩, _⟩ := hs
    obtain ⟨a0, _⟩ := ha
    have g12 : [ρ 12, ρ 13, ρ 14, ρ 15] = wds 4 (val [ρ 0, ρ 1, ρ 2, ρ 3] + val [ρ 4, ρ 5, ρ 6, ρ 7]) := get4 rfl h12 h13 h14 h15
    have e16 : ρ 16 = b2i (decide (big 4 ≤ val [ρ 0, ρ 1, ρ 2, ρ 3] + val [ρ 4, ρ 5, ρ 6, ρ 7])) := h16
    rw [st_dec] at e16
    have e17 : ρ 17 = b2i (decide (val [ρ 12, ρ 13, ρ 14, ρ 15] < val [ρ 8, ρ 9, ρ 10, ρ 11])) := h17
    rw [st_dec] at e17
    have g20 : [ρ 20, ρ 21, ρ 22, ρ 23] = wds 4 (val [ρ 12, ρ 13, ρ 14, ρ 15] - val [ρ 8, ρ 9, ρ 10, ρ 11]) := get4 rfl h20 h21 h22 h23
    have e24 : ρ 24 = b2i (decide (val [ρ 12, ρ 13, ρ 14, ρ 15] < val [ρ 8, ρ 9, ρ 10, ρ 11])) := h24
    rw [st_dec] at e24
    rw [g12] at e17
    change wds 4 (addM (val [ρ 0, ρ 1, ρ 2, ρ 3]) (val [ρ 4, ρ 5, ρ 6, ρ 7]) (val [ρ 8, ρ 9, ρ 10, ρ 11])) = [ρ 20, ρ 21, ρ 22, ρ 23]
    rw [g20, g12]
    exact addW_yes (u64s_cons b0 (u64s_cons b1 (u64s_cons b2 (u64s_cons b3 u64s_nil)))) (u64s_cons b4 (u64s_cons b5 (u64s_cons b6 (u64s_cons b7 u64s_nil)))) (u64s_cons b8 (u64s_cons b9 (u64s_cons b10 (u64s_cons b11 u64s_nil)))) rfl (by by_cases hq : big 4 ≤ val [ρ 0, ρ 1, ρ 2, ρ 3] + val [ρ 4, ρ 5, ρ 6, ρ 7]; exact .inl hq; right; intro hlt; simp only [hq, hlt, not_true_eq_false, not_false_eq_true, true_and, false_and, false_or, or_false] at e16 e17; omega)
  · simp only [satTr_cons, satTr_nil, sv_lss, sv_leq, sv_gtr, sv_geq, sv_eql, sv_neq, sv_not, sv_beq, sv_pick, sv_add, sv_sub, sv_fn, sv_eqs, E.den, List.map, K.holds] at hs
    simp only [asrOK_cons, asrOK_nil, if_true, if_false, Bool.false_eq_true, E.den] at ha
    obtain ⟨⟨h19, k19⟩, ⟨h18, k18⟩, ⟨h17, k17⟩, ⟨h16, k16⟩, ⟨h15, k15⟩, ⟨h14, k14⟩, ⟨h13, k13⟩, ⟨h12, k12⟩, _⟩ := hs
    obtain ⟨a0, _⟩ := ha
    have g12 : [ρ 12, ρ 13, ρ 14, ρ 15] = wds 4 (val [ρ 0, ρ 1, ρ 2, ρ 3] + val [ρ 4, ρ 5, ρ 6, ρ 7]) := get4 rfl h12 h13 h14 h15
    have e16 : ρ 16 = b2i (decide (big 4 ≤ val [ρ 0, ρ 1, ρ 2, ρ 3] + val [ρ 4, ρ 5, ρ 6, ρ 7])) := h16
    rw [st_dec] at e16
    have e17 : ρ 17 = b2i (decide (val [ρ 12, ρ 13, ρ 14, ρ 15] < val [ρ 8, ρ 9, ρ 10, ρ 11])) := h17
    rw [st_dec] at e17
    rw [g12] at e17
    change wds 4 (addM (val [ρ 0, ρ 1, ρ 2, ρ 3]) (val [ρ 4, ρ 5, ρ 6, ρ 7]) (val [ρ 8, ρ 9, ρ 10, ρ 11])) = [ρ 12, ρ 13, ρ 14, ρ 15]
    rw [g12]
    by_cases hq : big 4 ≤ val [ρ 0, ρ 1, ρ 2, ρ 3] + val [ρ 4, ρ 5, ρ 6, ρ 7]
    · simp only [hq, not_true_eq_false, true_and, false_and, or_false] at e16; omega
    · by_cases hl : val (wds 4 (val [ρ 0, ρ 1, ρ 2, ρ 3] + val [ρ 4, ρ 5, ρ 6, ρ 7])) < val [ρ 8, ρ 9, ρ 10, ρ 11]
      · exact addW_no (u64s_cons b0 (u64s_cons b1 (u64s_cons b2 (u64s_cons b3 u64s_nil)))) (u64s_cons b4 (u64s_cons b5 (u64s_cons b6 (u64s_cons b7 u64s_nil)))) hq hl
      · simp only [hl, not_false_eq_true, true_and, false_and, false_or] at e17; omega

/-! ### times -/
def su_times : Summ := ⟨[.cn 5, .slc 4, .slc 4], none, [.slc 4]⟩
def t_times0 : CT := .leaf ⟨[(28, .i .u64, .fn 27 [.v 21, .v 22, .v 23, .v 24, .v 1, .v 2, .v 3, .v 4, .v 5, .v 6, .v 7, .v 8] 3),
    (27, .i .u64, .fn 27 [.v 21, .v 22, .v 23, .v 24, .v 1, .v 2, .v 3, .v 4, .v 5, .v 6, .v 7, .v 8] 2),
    (26, .i .u64, .fn 27 [.v 21, .v 22, .v 23, .v 24, .v 1, .v 2, .v 3, .v 4, .v 5, .v 6, .v 7, .v 8] 1),
    (25, .i .u64, .fn 27 [.v 21, .v 22, .v 23, .v 24, .v 1, .v 2, .v 3, .v 4, .v 5, .v 6, .v 7, .v 8] 0),
    (24, .i .u64, .fn 27 [.v 17, .v 18, .v 19, .v 20, .v 1, .v 2, .v 3, .v 4, .v 5, .v 6, .v 7, .v 8] 3),
    (23, .i .u64, .fn 27 [.v 17, .v 18, .v 19, .v 20, .v 1, .v 2, .v 3, .v 4, .v 5, .v 6, .v 7, .v 8] 2),
    (22, .i .u64, .fn 27 [.v 17, .v 18, .v 19, .v 20, .v 1, .v 2, .v 3, .v 4, .v 5, .v 6, .v 7, .v 8] 1),
    (21, .i .u64, .fn 27 [.v 17, .v 18, .v 19, .v 20, .v 1, .v 2, .v 3, .v 4, .v 5, .v 6, .v 7, .v 8] 0),
    (20, .i .u64, .fn 27 [.v 13, .v 14, .v 15, .v 16, .v 1, .v 2, .v 3, .v 4, .v 5, .v 6, .v 7, .v 8] 3),
    (19, .i .u64, .fn 27 [.v 13, .v 14, .v 15, .v 16, .v 1, .v 2, .v 3, .v 4, .v 5, .v 6, .v 7, .v 8] 2),
    (18, .i .u64, .fn 27 [.v 13, .v 14, .v 15, .v 16, .v 1, .v 2, .v 3, .v 4, .v 5, .v 6, .v 7, .v 8] 1),
    (17, .i .u64, .fn 27 [.v 13, .v 14, .v 15, .v 16, .v 1, .v 2, .v 3, .v 4, .v 5, .v 6, .v 7, .v 8] 0),
    (16, .i .u64, .fn 27 [.v 9, .v 10, .v 11, .v 12, .v 1, .v 2, .v 3, .v 4, .v 5, .v 6, .v 7, .v 8] 3),
    (15, .i .u64, .fn 27 [.v 9, .v 10, .v 11, .v 12, .v 1, .v 2, .v 3, .v 4, .v 5, .v 6, .v 7, .v 8] 2),
    (14, .i .u64, .fn 27 [.v 9, .v 10, .v 11, .v 12, .v 1, .v 2, .v 3, .v 4, .v 5, .v 6, .v 7, .v 8] 1),
    (13, .i .u64, .fn 27 [.v 9, .v 10, .v 11, .v 12, .v 1, .v 2, .v 3, .v 4, .v 5, .v 6, .v 7, .v 8] 0),
    (12, .i .u64, .fn 27 [.c 0, .c 0, .c 0, .c 0, .v 1, .v 2, .v 3, .v 4, .v 5, .v 6, .v 7, .v 8] 3),
    (11, .i .u64, .fn 27 [.c 0, .c 0, .c 0, .c 0, .v 1, .v 2, .v 3, .v 4, .v 5, .v 6, .v 7, .v 8] 2),
    (10, .i .u64, .fn 27 [.c 0, .c 0, .c 0, .c 0, .v 1, .v 2, .v 3, .v 4, .v 5, .v 6, .v 7, .v 8] 1),
    (9, .i .u64, .fn 27 [.c 0, .c 0, .c 0, .c 0, .v 1, .v 2, .v 3, .v 4, .v 5, .v 6, .v 7, .v 8] 0)],
    [], [.v 25, .v 26, .v 27, .v 28]⟩
theorem chk_times : checkFn Try.prog [(27, su_addW)] su_times 400 Try.f21 (fun _ => t_times0) = true := by kernel_rfl
theorem ok_times : SummOK Try.prog 21 su_times (Phi 21) := by
  refine summ_fn (Φ := Phi) 400 (fun _ => t_times0) Try.func21 (tbl_cons ok_addW tbl_nil) chk_times ?_
  intro al hal l hl ρ hk hs ha
  have hn : su_times.inKinds.length = 9 := rfl
  have hr : row ρ 9 = [ρ 0, ρ 1, ρ 2, ρ 3, ρ 4, ρ 5, ρ 6, ρ 7, ρ 8] := rfl
  rw [hn, hr] at hk ⊢
  simp only [su_times, Summ.inKinds, List.flatMap_cons, List.flatMap_nil, List.replicate, List.cons_append, List.nil_append, List.append_nil, holdsAll, K.holds] at hk
  obtain ⟨b0, b1, b2, b3, b4, b5, b6, b7, b8, _⟩ := hk
  simp only [t_times0, CT.leaves, List.cons_append, List.nil_append, List.mem_cons, List.not_mem_nil, or_false] at hl
  subst hl
  simp only [satTr_cons, satTr_nil, sv_lss, sv_leq, sv_gtr, sv_geq, sv_eql, sv_neq, sv_not, sv_beq, sv_pick, sv_add, sv_sub, sv_fn, sv_eqs, E.den, List.map, K.holds] at hs
  simp only [asrOK_cons, asrOK_nil, if_true, if_false, Bool.false_eq_true, E.den] at ha
  obtain ⟨⟨h28, k28⟩, ⟨h27, k27⟩, ⟨h26, k26⟩, ⟨h25, k25⟩, ⟨h24, k24⟩, ⟨h23, k23⟩, ⟨h22, k22⟩, ⟨h21, k21⟩, ⟨h20, k20⟩, ⟨h19, k19⟩, ⟨h18, k18⟩, ⟨h17, k17⟩, ⟨h16, k16⟩, ⟨h15, k15⟩, ⟨h14, k14⟩, ⟨h13, k13⟩, ⟨h12, k12⟩, ⟨h11, k11⟩, ⟨h10, k10⟩, ⟨h9, k9⟩, _⟩ := hs
  clear ha
  have g9 : [ρ 9, ρ 10, ρ 11, ρ 12] = wds 4 (addM (val [0, 0, 0, 0]) (val [ρ 1, ρ 2, ρ 3, ρ 4]) (val [ρ 5, ρ 6, ρ 7, ρ 8])) := get4 rfl h9 h10 h11 h12
  have g13 : [ρ 13, ρ 14, ρ 15, ρ 16] = wds 4 (addM (val [ρ 9, ρ 10, ρ 11, ρ 12]) (val [ρ 1, ρ 2, ρ 3, ρ 4]) (val [ρ 5, ρ 6, ρ 7, ρ 8])) := get4 rfl h13 h14 h15 h16
  have g17 : [ρ 17, ρ 18, ρ 19, ρ 20] = wds 4 (addM (val [ρ 13, ρ 14, ρ 15, ρ 16]) (val [ρ 1, ρ 2, ρ 3, ρ 4]) (val [ρ 5, ρ 6, ρ 7, ρ 8])) := get4 rfl h17 h18 h19 h20
  have g21 : [ρ 21, ρ 22, ρ 23, ρ 24] = wds 4 (addM (val [ρ 17, ρ 18, ρ 19, ρ 20]) (val [ρ 1, ρ 2, ρ 3, ρ 4]) (val [ρ 5, ρ 6, ρ 7, ρ 8])) := get4 rfl h21 h22 h23 h24
  have g25 : [ρ 25, ρ 26, ρ 27, ρ 28] = wds 4 (addM (val [ρ 21, ρ 22, ρ 23, ρ 24]) (val [ρ 1, ρ 2, ρ 3, ρ 4]) (val [ρ 5, ρ 6, ρ 7, ρ 8])) := get4 rfl h25 h26 h27 h28
  change addI 4 [ρ 1, ρ 2, ρ 3, ρ 4] [ρ 5, ρ 6, ρ 7, ρ 8] (addI 4 [ρ 1, ρ 2, ρ 3, ρ 4] [ρ 5, ρ 6, ρ 7, ρ 8] (addI 4 [ρ 1, ρ 2, ρ 3, ρ 4] [ρ 5, ρ 6, ρ 7, ρ 8] (addI 4 [ρ 1, ρ 2, ρ 3, ρ 4] [ρ 5, ρ 6, ρ 7, ρ 8] (addI 4 [ρ 1, ρ 2, ρ 3, ρ 4] [ρ 5, ρ 6, ρ 7, ρ 8] [0, 0, 0, 0])))) = [ρ 25, ρ 26, ρ 27, ρ 28]
  have s0 : addI 4 [ρ 1, ρ 2, ρ 3, ρ 4] [ρ 5, ρ 6, ρ 7, ρ 8] [0, 0, 0, 0] = [ρ 9, ρ 10, ρ 11, ρ 12] := g9.symm
  have s1 : addI 4 [ρ 1, ρ 2, ρ 3, ρ 4] [ρ 5, ρ 6, ρ 7, ρ 8] [ρ 9, ρ 10, ρ 11, ρ 12] = [ρ 13, ρ 14, ρ 15, ρ 16] := g13.symm
  have s2 : addI 4 [ρ 1, ρ 2, ρ 3, ρ 4] [ρ 5, ρ 6, ρ 7, ρ 8] [ρ 13, ρ 14, ρ 15, ρ 16] = [ρ 17, ρ 18, ρ 19, ρ 20] := g17.symm
  have s3 : addI 4 [ρ 1, ρ 2, ρ 3, ρ 4] [ρ 5, ρ 6, ρ 7, ρ 8] [ρ 17, ρ 18, ρ 19, ρ 20] = [ρ 21, ρ 22, ρ 23, ρ 24] := g21.symm
  have s4 : addI 4 [ρ 1, ρ 2, ρ 3, ρ 4] [ρ 5, ρ 6, ρ 7, ρ 8] [ρ 21, ρ 22, ρ 23, ρ 24] = [ρ 25, ρ 26, ρ 27, ρ 28] := g25.symm
  rw [s0, s1, s2, s3, s4]

/-! ### small -/
def su_small : Summ := ⟨[.ptr 4], none, [.sc .bool]⟩
def t_small0 : CT := .node (.v 4)
  (.leaf ⟨[(4, .bool, .cmp .lss (.v 3) (.c 8353516859464449352))],
    [(.v 4, true)], [.c 1]⟩)
  (.node (.v 5)
  (.node (.v 6)
  (.leaf ⟨[(6, .bool, .cmp .lss (.v 2) (.c 3691218898639771653)),
    (5, .bool, .cmp .eql (.v 3) (.c 8353516859464449352)),
    (4, .bool, .cmp .lss (.v 3) (.c 8353516859464449352))],
    [(.v 6, true), (.v 5, true), (.v 4, false)], [.c 1]⟩)
  (.node (.v 7)
  (.node (.v 8)
  (.leaf ⟨[(8, .bool, .cmp .lss (.v 1) (.c 6034159408538082302)),
    (7, .bool, .cmp .eql (.v 2) (.c 3691218898639771653)),
    (6, .bool, .cmp .lss (.v 2) (.c 3691218898639771653)),
    (5, .bool, .cmp .eql (.v 3) (.c 8353516859464449352)),
    (4, .bool, .cmp .lss (.v 3) (.c 8353516859464449352))],
    [(.v 8, true), (.v 7, true), (.v 6, false), (.v 5, true), (.v 4, false)], [.c 1]⟩)
  (.node (.v 9)
  (.leaf ⟨[(10, .bool, .cmp .lss (.v 0) (.c 18446744069414584321)),
    (9, .bool, .cmp .eql (.v 1) (.c 6034159408538082302)),
    (8, .bool, .cmp .lss (.v 1) (.c 6034159408538082302)),
    (7, .bool, .cmp .eql (.v 2) (.c 3691218898639771653)),
    (6, .bool, .cmp .lss (.v 2) (.c 3691218898639771653)),
    (5, .bool, .cmp .eql (.v 3) (.c 8353516859464449352)),
    (4, .bool, .cmp .lss (.v 3) (.c 8353516859464449352))],
    [(.v 9, true), (.v 8, false), (.v 7, true), (.v 6, false), (.v 5, true), (.v 4, false)], [.v 10]⟩)
  (.leaf ⟨[(9, .bool, .cmp .eql (.v 1) (.c 6034159408538082302)),
    (8, .bool, .cmp .lss (.v 1) (.c 6034159408538082302)),
    (7, .bool, .cmp .eql (.v 2) (.c 3691218898639771653)),
    (6, .bool, .cmp .lss (.v 2) (.c 3691218898639771653)),
    (5, .bool, .cmp .eql (.v 3) (.c 8353516859464449352)),
    (4, .bool, .cmp .lss (.v 3) (.c 8353516859464449352))],
    [(.v 9, false), (.v 8, false), (.v 7, true), (.v 6, false), (.v 5, true), (.v 4, false)], [.c 0]⟩)))
  (.leaf ⟨[(7, .bool, .cmp .eql (.v 2) (.c 3691218898639771653)),
    (6, .bool, .cmp .lss (.v 2) (.c 3691218898639771653)),
    (5, .bool, .cmp .eql (.v 3) (.c 8353516859464449352)),
    (4, .bool, .cmp .lss (.v 3) (.c 8353516859464449352))],
    [(.v 7, false), (.v 6, false), (.v 5, true), (.v 4, false)], [.c 0]⟩)))
  (.leaf ⟨[(5, .bool, .cmp .eql (.v 3) (.c 8353516859464449352)),
    (4, .bool, .cmp .lss (.v 3) (.c 8353516859464449352))],
    [(.v 5, false), (.v 4, false)], [.c 0]⟩))
theorem chk_small : checkFn Try.prog [] su_small 400 Try.f41 (fun _ => t_small0) = true := by kernel_rfl
theorem ok_small : SummOK Try.prog 41 su_small (Phi 41) := by
  refine summ_fn (Φ := Phi) 400 (fun _ => t_small0) Try.func41 tbl_nil chk_small ?_
  intro al hal l hl ρ hk hs ha
  have hn : su_small.inKinds.length = 4 := rfl
  have hr : row ρ 4 = [ρ 0, ρ 1, ρ 2, ρ 3] := rfl
  rw [hn, hr] at hk ⊢
  simp only [su_small, Summ.inKinds, List.flatMap_cons, List.flatMap_nil, List.replicate, List.cons_append, List.nil_append, List.append_nil, holdsAll, K.holds] at hk
  obtain ⟨b0, b1, b2, b3, _⟩ := hk
  simp only [t_small0, CT.leaves, List.cons_append, List.nil_append, List.mem_cons, List.not_mem_nil, or_false] at hl
  rcases hl with rfl | rfl | rfl | rfl | rfl | rfl | rfl
  · simp only [satTr_cons, satTr_nil, sv_lss, sv_leq, sv_gtr, sv_geq, sv_eql, sv_neq, sv_not, sv_beq, sv_pick, sv_add, sv_sub, sv_fn, sv_eqs, E.den, List.map, K.holds] at hs
    simp only [asrOK_cons, asrOK_nil, if_true, if_false, Bool.false_eq_true, E.den] at ha
    obtain ⟨⟨h4, k4⟩, _⟩ := hs
    obtain ⟨a0, _⟩ := ha
    refine dec_one (p := val [ρ 0, ρ 1, ρ 2, ρ 3] < q) (z := 1) ?_
    simp only [val, q, List.cons.injEq, and_true]
    omega
  · simp only [satTr_cons, satTr_nil, sv_lss, sv_leq, sv_gtr, sv_geq, sv_eql, sv_neq, sv_not, sv_beq, sv_pick, sv_add, sv_sub, sv_fn, sv_eqs, E.den, List.map, K.holds] at hs
    simp only [asrOK_cons, asrOK_nil, if_true, if_false, Bool.false_eq_true, E.den] at ha
    obtain ⟨⟨h6, k6⟩, ⟨h5, k5⟩, ⟨h4, k4⟩, _⟩ := hs
    obtain ⟨a0, a1, a2, _⟩ := ha
    refine dec_one (p := val [ρ 0, ρ 1, ρ 2, ρ 3] < q) (z := 1) ?_
    simp only [val, q, List.cons.injEq, and_true]
    omega
  · simp only [satTr_cons, satTr_nil, sv_lss, sv_leq, sv_gtr, sv_geq, sv_eql, sv_neq, sv_not, sv_beq, sv_pick, sv_add, sv_sub, sv_fn, sv_eqs, E.den, List.map, K.holds] at hs
    simp only [asrOK_cons, asrOK_nil, if_true, if_false, Bool.false_eq_true, E.den] at ha
    obtain ⟨⟨h8, k8⟩, ⟨h7, k7⟩, ⟨h6, k6⟩, ⟨h5, k5⟩, ⟨h4, k4⟩, _⟩ := hs
    obtain ⟨a0, a1, a2, a3, a4, _⟩ := ha
    refine dec_one (p := val [ρ 0, ρ 1, ρ 2, ρ 3] < q) (z := 1) ?_
    simp only [val, q, List.cons.injEq, and_true]
    omega
  · simp only [satTr_cons, satTr_nil, sv_lss, sv_leq, sv_gtr, sv_geq, sv_eql, sv_neq, sv_not, sv_beq, sv_pick, sv_add, sv_sub, sv_fn, sv_eqs, E.den, List.map, K.holds] at hs
    simp only [asrOK_cons, asrOK_nil, if_true, if_false, Bool.false_eq_true, E.den] at ha
    obtain ⟨⟨h10, k10⟩, ⟨h9, k9⟩, ⟨h8, k8⟩, ⟨h7, k7⟩, ⟨h6, k6⟩, ⟨h5, k5⟩, ⟨h4, k4⟩, _⟩ := hs
    obtain ⟨a0, a1, a2, a3, a4, a5, _⟩ := ha
    refine dec_one (p := val [ρ 0, ρ 1, ρ 2, ρ 3] < q) (z := ρ 10) ?_
    simp only [val, q, List.cons.injEq, and_true]
    omega
  · simp only [satTr_cons, satTr_nil, sv_lss, sv_leq, sv_gtr, sv_geq, sv_eql, sv_neq, sv_not, sv_beq, sv_pick, sv_add, sv_sub, sv_fn, sv_eqs, E.den, List.map, K.holds] at hs
    simp only [asrOK_cons, asrOK_nil, if_true, if_false, Bool.false_eq_true, E.den] at ha
    obtain ⟨⟨h9, k9⟩, ⟨h8, k8⟩, ⟨h7, k7⟩, ⟨h6, k6⟩, ⟨h5, k5⟩, ⟨h4, k4⟩, _⟩ := hs
    obtain ⟨a0, a1, a2, a3, a4, a5, _⟩ := ha
    refine dec_one (p := val [ρ 0, ρ 1, ρ 2, ρ 3] < q) (z := 0) ?_
    simp only [val, q, List.cons.injEq, and_true]
    omega
  · simp only [satTr_cons, satTr_nil, sv_lss, sv_leq, sv_gtr, sv_geq, sv_eql, sv_neq, sv_not, sv_beq, sv_pick, sv_add, sv_sub, sv_fn, sv_eqs, E.den, List.map, K.holds] at hs
    simp only [asrOK_cons, asrOK_nil, if_true, if_false, Bool.false_eq_true, E.den] at ha
    obtain ⟨⟨h7, k7⟩, ⟨h6, k6⟩, ⟨h5, k5⟩, ⟨h4, k4⟩, _⟩ := hs
    obtain ⟨a0, a1, a2, a3, _⟩ := ha
    refine dec_one (p := val [ρ 0, ρ 1, ρ 2, ρ 3] < q) (z := 0) ?_
    simp only [val, q, List.cons.injEq, and_true]
    omega
  · simp only [satTr_cons, satTr_nil, sv_lss, sv_leq, sv_gtr, sv_geq, sv_eql, sv_neq, sv_not, sv_beq, sv_pick, sv_add, sv_sub, sv_fn, sv_eqs, E.den, List.map, K.holds] at hs
    simp only [asrOK_cons, asrOK_nil, if_true, if_false, Bool.false_eq_true, E.den] at ha
    obtain ⟨⟨h5, k5⟩, ⟨h4, k4⟩, _⟩ := hs
    obtain ⟨a0, a1, _⟩ := ha
    refine dec_one (p := val [ρ 0, ρ 1, ρ 2, ρ 3] < q) (z := 0) ?_
    simp only [val, q, List.cons.injEq, and_true]
    omega

/-! ### add -/
def su_add : Summ := ⟨[.ptr 4, .ptr 4, .ptr 4], (some 0), [.arg 0]⟩
def t_add0 : CT := .leaf ⟨[(33, .i .u64, .pick (.v 21) (.v 28) (.v 18)),
    (32, .i .u64, .pick (.v 21) (.v 26) (.v 16)),
    (31, .i .u64, .pick (.v 21) (.v 24) (.v 14)),
    (30, .i .u64, .pick (.v 21) (.v 22) (.v 12)),
    (29, .bit, .fn 39 [.v 18, .c 8353516859464449352, .v 27] 1),
    (28, .i .u64, .fn 39 [.v 18, .c 8353516859464449352, .v 27] 0),
    (27, .bit, .fn 39 [.v 16, .c 3691218898639771653, .v 25] 1),
    (26, .i .u64, .fn 39 [.v 16, .c 3691218898639771653, .v 25] 0),
    (25, .bit, .fn 39 [.v 14, .c 6034159408538082302, .v 23] 1),
    (24, .i .u64, .fn 39 [.v 14, .c 6034159408538082302, .v 23] 0),
    (23, .bit, .fn 39 [.v 12, .c 18446744069414584321, .c 0] 1),
    (22, .i .u64, .fn 39 [.v 12, .c 18446744069414584321, .c 0] 0),
    (21, .bool, .not (.v 20)),
    (20, .bool, .fn 41 [.v 12, .v 14, .v 16, .v 18] 0),
    (19, .bit, .fn 40 [.v 7, .v 11, .v 17] 1),
    (18, .i .u64, .fn 40 [.v 7, .v 11, .v 17] 0),
    (17, .bit, .fn 40 [.v 6, .v 10, .v 15] 1),
    (16, .i .u64, .fn 40 [.v 6, .v 10, .v 15] 0),
    (15, .bit, .fn 40 [.v 5, .v 9, .v 13] 1),
    (14, .i .u64, .fn 40 [.v 5, .v 9, .v 13] 0),
    (13, .bit, .fn 40 [.v 4, .v 8, .c 0] 1),
    (12, .i .u64, .fn 40 [.v 4, .v 8, .c 0] 0)],
    [], [.v 30, .v 31, .v 32, .v 33]⟩
theorem chk_add : checkFn Try.prog [(40, addSub), (39, addSub), (41, su_small)] su_add 400 Try.f31 (fun _ => t_add0) = true := by kernel_rfl
theorem ok_add : SummOK Try.prog 31 su_add (Phi 31) := by
  refine summ_fn (Φ := Phi) 400 (fun _ => t_add0) Try.func31 (tbl_cons ok_add64 (tbl_cons ok_sub64 (tbl_cons ok_small tbl_nil))) chk_add ?_
  intro al hal l hl ρ hk hs ha
  have hn : su_add.inKinds.length = 12 := rfl
  have hr : row ρ 12 = [ρ 0, ρ 1, ρ 2, ρ 3, ρ 4, ρ 5, ρ 6, ρ 7, ρ 8, ρ 9, ρ 10, ρ 11] := rfl
  rw [hn, hr] at hk ⊢
  simp only [su_add, Summ.inKinds, List.flatMap_cons, List.flatMap_nil, List.replicate, List.cons_append, List.nil_append, List.append_nil, holdsAll, K.holds] at hk
  obtain ⟨b0, b1, b2, b3, b4, b5, b6, b7, b8, b9, b10, b11, _⟩ := hk
  simp only [t_add0, CT.leaves, List.cons_append, List.nil_append, List.mem_cons, List.not_mem_nil, or_false] at hl
  subst hl
  simp only [satTr_cons, satTr_nil, sv_lss, sv_leq, sv_gtr, sv_geq, sv_eql, sv_neq, sv_not, sv_beq, sv_pick, sv_add, sv_sub, sv_fn, sv_eqs, E.den, List.map, K.holds] at hs
  simp only [asrOK_cons, asrOK_nil, if_true, if_false, Bool.false_eq_true, E.den] at ha
  obtain ⟨⟨h33, k33⟩, ⟨h32, k32⟩, ⟨h31, k31⟩, ⟨h30, k30⟩, ⟨h29, k29⟩, ⟨h28, k28⟩, ⟨h27, k27⟩, ⟨h26, k26⟩, ⟨h25, k25⟩, ⟨h24, k24⟩, ⟨h23, k23⟩, ⟨h22, k22⟩, ⟨h21, k21⟩, ⟨h20, k20⟩, ⟨h19, k19⟩, ⟨h18, k18⟩, ⟨h17, k17⟩, ⟨h16, k16⟩, ⟨h15, k15⟩, ⟨h14, k14⟩, ⟨h13, k13⟩, ⟨h12, k12⟩, _⟩ := hs
  clear ha
  have r12 : ρ 12 + 18446744073709551616 * ρ 13 = ρ 4 + ρ 8 + 0 := adc h12 h13
  have r14 : ρ 14 + 18446744073709551616 * ρ 15 = ρ 5 + ρ 9 + ρ 13 := adc h14 h15
  have r16 : ρ 16 + 18446744073709551616 * ρ 17 = ρ 6 + ρ 10 + ρ 15 := adc h16 h17
  have r18 : ρ 18 + 18446744073709551616 * ρ 19 = ρ 7 + ρ 11 + ρ 17 := adc h18 h19
  have e20 : ρ 20 = b2i (decide (val [ρ 12, ρ 14, ρ 16, ρ 18] < q)) := h20
  rw [st_dec] at e20
  have r22 : ρ 22 - 18446744073709551616 * ρ 23 = ρ 12 - 18446744069414584321 - 0 := sbb k12 (by decide) (by decide) h22 h23
  have r24 : ρ 24 - 18446744073709551616 * ρ 25 = ρ 14 - 6034159408538082302 - ρ 23 := sbb k14 (by decide) k23 h24 h25
  have r26 : ρ 26 - 18446744073709551616 * ρ 27 = ρ 16 - 3691218898639771653 - ρ 25 := sbb k16 (by decide) k25 h26 h27
  have r28 : ρ 28 - 18446744073709551616 * ρ 29 = ρ 18 - 8353516859464449352 - ρ 27 := sbb k18 (by decide) k27 h28 h29
  change wds 4 (eAdd 4 q (val [ρ 4, ρ 5, ρ 6, ρ 7]) (val [ρ 8, ρ 9, ρ 10, ρ 11])) = [ρ 30, ρ 31, ρ 32, ρ 33]
  refine add_done (S := [ρ 12, ρ 14, ρ 16, ρ 18]) (D := [ρ 22, ρ 24, ρ 26, ρ 28]) (c := ρ 19) (d := ρ 29) (u64s_cons k12 (u64s_cons k14 (u64s_cons k16 (u64s_cons k18 u64s_nil)))) rfl (u64s_cons k22 (u64s_cons k24 (u64s_cons k26 (u64s_cons k28 u64s_nil)))) rfl ?_ h20 h21 ?_ ?_
  · simp only [val, big]; clear e20; omega
  · simp only [val, big, q]; clear e20; omega
  · by_cases hz : ρ 21 = 0
    · left; refine ⟨hz, ?_⟩; simp only [hz, true_and, ne_eq, not_true_eq_false, false_and, or_false] at h30 h31 h32 h33; rw [h30, h31, h32, h33]
    · right; refine ⟨hz, ?_⟩; simp only [hz, false_and, ne_eq, not_false_eq_true, true_and, false_or] at h30 h31 h32 h33; rw [h30, h31, h32, h33]

/-! ### dbl -/
def su_dbl : Summ := ⟨[.ptr 4, .ptr 4], (some 0), [.arg 0]⟩
def t_dbl0 : CT := .leaf ⟨[(29, .i .u64, .pick (.v 17) (.v 24) (.v 14)),
    (28, .i .u64, .pick (.v 17) (.v 22) (.v 12)),
    (27, .i .u64, .pick (.v 17) (.v 20) (.v 10)),
    (26, .i .u64, .pick (.v 17) (.v 18) (.v 8)),
    (25, .bit, .fn 39 [.v 14, .c 8353516859464449352, .v 23] 1),
    (24, .i .u64, .fn 39 [.v 14, .c 8353516859464449352, .v 23] 0),
    (23, .bit, .fn 39 [.v 12, .c 3691218898639771653, .v 21] 1),
    (22, .i .u64, .fn 39 [.v 12, .c 3691218898639771653, .v 21] 0),
    (21, .bit, .fn 39 [.v 10, .c 6034159408538082302, .v 19] 1),
    (20, .i .u64, .fn 39 [.v 10, .c 6034159408538082302, .v 19] 0),
    (19, .bit, .fn 39 [.v 8, .c 18446744069414584321, .c 0] 1),
    (18, .i .u64, .fn 39 [.v 8, .c 18446744069414584321, .c 0] 0),
    (17, .bool, .not (.v 16)),
    (16, .bool, .fn 41 [.v 8, .v 10, .v 12, .v 14] 0),
    (15, .bit, .fn 40 [.v 7, .v 7, .v 13] 1),
    (14, .i .u64, .fn 40 [.v 7, .v 7, .v 13] 0),
    (13, .bit, .fn 40 [.v 6, .v 6, .v 11] 1),
    (12, .i .u64, .fn 40 [.v 6, .v 6, .v 11] 0),
    (11, .bit, .fn 40 [.v 5, .v 5, .v 9] 1),
    (10, .i .u64, .fn 40 [.v 5, .v 5, .v 9] 0),
    (9, .bit, .fn 40 [.v 4, .v 4, .c 0] 1),
    (8, .i .u64, .fn 40 [.v 4, .v 4, .c 0] 0)],
    [], [.v 26, .v 27, .v 28, .v 29]⟩
theorem chk_dbl : checkFn Try.prog [(40, addSub), (39, addSub), (41, su_small)] su_dbl 400 Try.f42 (fun _ => t_dbl0) = true := by kernel_rfl
theorem ok_dbl : SummOK Try.prog 42 su_dbl (Phi 42) := by
  refine summ_fn (Φ := Phi) 400 (fun _ => t_dbl0) Try.func42 (tbl_cons ok_add64 (tbl_cons ok_sub64 (tbl_cons ok_small tbl_nil))) chk_dbl ?_
  intro al hal l hl ρ hk hs ha
  have hn : su_dbl.inKinds.length = 8 := rfl
  have hr : row ρ 8 = [ρ 0, ρ 1, ρ 2, ρ 3, ρ 4, ρ 5, ρ 6, ρ 7] := rfl
  rw [hn, hr] at hk ⊢
  simp only [su_dbl, Summ.inKinds, List.flatMap_cons, List.flatMap_nil, List.replicate, List.cons_append, List.nil_append, List.append_nil, holdsAll, K.holds] at hk
  obtain ⟨b0, b1, b2, b3, b4, b5, b6, b7, _⟩ := hk
  simp only [t_dbl0, CT.leaves, List.cons_append, List.nil_append, List.mem_cons, List.not_mem_nil, or_false] at hl
  subst hl
  simp only [satTr_cons, satTr_nil, sv_lss, sv_leq, sv_gtr, sv_geq, sv_eql, sv_neq, sv_not, sv_beq, sv_pick, sv_add, sv_sub, sv_fn, sv_eqs, E.den, List.map, K.holds] at hs
  simp only [asrOK_cons, asrOK_nil, if_true, if_false, Bool.false_eq_true, E.den] at ha
  obtain ⟨⟨h29, k29⟩, ⟨h28, k28⟩, ⟨h27, k27⟩, ⟨h26, k26⟩, ⟨h25, k25⟩, ⟨h24, k24⟩, ⟨h23, k23⟩, ⟨h22, k22⟩, ⟨h21, k21⟩, ⟨h20, k20⟩, ⟨h19, k19⟩, ⟨h18, k18⟩, ⟨h17, k17⟩, ⟨h16, k16⟩, ⟨h15, k15⟩, ⟨h14, k14⟩, ⟨h13, k13⟩, ⟨h12, k12⟩, ⟨h11, k11⟩, ⟨h10, k10⟩, ⟨h9, k9⟩, ⟨h8, k8⟩, _⟩ := hs
  clear ha
  have r8 : ρ 8 + 18446744073709551616 * ρ 9 = ρ 4 + ρ 4 + 0 := adc h8 h9
  have r10 : ρ 10 + 18446744073709551616 * ρ 11 = ρ 5 + ρ 5 + ρ 9 := adc h10 h11
  have r12 : ρ 12 + 18446744073709551616 * ρ 13 = ρ 6 + ρ 6 + ρ 11 := adc h12 h13
  have r14 : ρ 14 + 18446744073709551616 * ρ 15 = ρ 7 + ρ 7 + ρ 13 := adc h14 h15
  have e16 : ρ 16 = b2i (decide (val [ρ 8, ρ 10, ρ 12, ρ 14] < q)) := h16
  rw [st_dec] at e16
  have r18 : ρ 18 - 18446744073709551616 * ρ 19 = ρ 8 - 18446744069414584321 - 0 := sbb k8 (by decide) (by decide) h18 h19
  have r20 : ρ 20 - 18446744073709551616 * ρ 21 = ρ 10 - 6034159408538082302 - ρ 19 := sbb k10 (by decide) k19 h20 h21
  have r22 : ρ 22 - 18446744073709551616 * ρ 23 = ρ 12 - 3691218898639771653 - ρ 21 := sbb k12 (by decide) k21 h22 h23
  have r24 : ρ 24 - 18446744073709551616 * ρ 25 = ρ 14 - 8353516859464449352 - ρ 23 := sbb k14 (by decide) k23 h24 h25
  change wds 4 (eAdd 4 q (val [ρ 4, ρ 5, ρ 6, ρ 7]) (val [ρ 4, ρ 5, ρ 6, ρ 7])) = [ρ 26, ρ 27, ρ 28, ρ 29]
  refine add_done (S := [ρ 8, ρ 10, ρ 12, ρ 14]) (D := [ρ 18, ρ 20, ρ 22, ρ 24]) (c := ρ 15) (d := ρ 25) (u64s_cons k8 (u64s_cons k10 (u64s_cons k12 (u64s_cons k14 u64s_nil)))) rfl (u64s_cons k18 (u64s_cons k20 (u64s_cons k22 (u64s_cons k24 u64s_nil)))) rfl ?_ h16 h17 ?_ ?_
  · simp only [val, big]; clear e16; omega
  · simp only [val, big, q]; clear e16; omega
  · by_cases hz : ρ 17 = 0
    · left; refine ⟨hz, ?_⟩; simp only [hz, true_and, ne_eq, not_true_eq_false, false_and, or_false] at h26 h27 h28 h29; rw [h26, h27, h28, h29]
    · right; refine ⟨hz, ?_⟩; simp only [hz, false_and, ne_eq, not_false_eq_true, true_and, false_or] at h26 h27 h28 h29; rw [h26, h27, h28, h29]

/-! ### mul5 -/
def su_mul5 : Summ := ⟨[.ptr 4], (some 0), []⟩
def t_mul50 : CT := .leaf ⟨[(15, .i .u64, .fn 31 [.v 8, .v 9, .v 10, .v 11, .v 8, .v 9, .v 10, .v 11, .v 0, .v 1, .v 2, .v 3] 3),
    (14, .i .u64, .fn 31 [.v 8, .v 9, .v 10, .v 11, .v 8, .v 9, .v 10, .v 11, .v 0, .v 1, .v 2, .v 3] 2),
    (13, .i .u64, .fn 31 [.v 8, .v 9, .v 10, .v 11, .v 8, .v 9, .v 10, .v 11, .v 0, .v 1, .v 2, .v 3] 1),
    (12, .i .u64, .fn 31 [.v 8, .v 9, .v 10, .v 11, .v 8, .v 9, .v 10, .v 11, .v 0, .v 1, .v 2, .v 3] 0),
    (11, .i .u64, .fn 42 [.v 4, .v 5, .v 6, .v 7, .v 4, .v 5, .v 6, .v 7] 3),
    (10, .i .u64, .fn 42 [.v 4, .v 5, .v 6, .v 7, .v 4, .v 5, .v 6, .v 7] 2),
    (9, .i .u64, .fn 42 [.v 4, .v 5, .v 6, .v 7, .v 4, .v 5, .v 6, .v 7] 1),
    (8, .i .u64, .fn 42 [.v 4, .v 5, .v 6, .v 7, .v 4, .v 5, .v 6, .v 7] 0),
    (7, .i .u64, .fn 42 [.v 0, .v 1, .v 2, .v 3, .v 0, .v 1, .v 2, .v 3] 3),
    (6, .i .u64, .fn 42 [.v 0, .v 1, .v 2, .v 3, .v 0, .v 1, .v 2, .v 3] 2),
    (5, .i .u64, .fn 42 [.v 0, .v 1, .v 2, .v 3, .v 0, .v 1, .v 2, .v 3] 1),
    (4, .i .u64, .fn 42 [.v 0, .v 1, .v 2, .v 3, .v 0, .v 1, .v 2, .v 3] 0)],
    [], [.v 12, .v 13, .v 14, .v 15]⟩
theorem chk_mul5 : checkFn Try.prog [(31, su_add), (42, su_dbl)] su_mul5 400 Try.f33 (fun _ => t_mul50) = true := by kernel_rfl
theorem ok_mul5 : SummOK Try.prog 33 su_mul5 (Phi 33) := by
  refine summ_fn (Φ := Phi) 400 (fun _ => t_mul50) Try.func33 (tbl_cons ok_add (tbl_cons ok_dbl tbl_nil)) chk_mul5 ?_
  intro al hal l hl ρ hk hs ha
  have hn : su_mul5.inKinds.length = 4 := rfl
  have hr : row ρ 4 = [ρ 0, ρ 1, ρ 2, ρ 3] := rfl
  rw [hn, hr] at hk ⊢
  simp only [su_mul5, Summ.inKinds, List.flatMap_cons, List.flatMap_nil, List.replicate, List.cons_append, List.nil_append, List.append_nil, holdsAll, K.holds] at hk
  obtain ⟨b0, b1, b2, b3, _⟩ := hk
  simp only [t_mul50, CT.leaves, List.cons_append, List.nil_append, List.mem_cons, List.not_mem_nil, or_false] at hl
  subst hl
  simp only [satTr_cons, satTr_nil, sv_lss, sv_leq, sv_gtr, sv_geq, sv_eql, sv_neq, sv_not, sv_beq, sv_pick, sv_add, sv_sub, sv_fn, sv_eqs, E.den, List.map, K.holds] at hs
  simp only [asrOK_cons, asrOK_nil, if_true, if_false, Bool.false_eq_true, E.den] at ha
  obtain ⟨⟨h15, k15⟩, ⟨h14, k14⟩, ⟨h13, k13⟩, ⟨h12, k12⟩, ⟨h11, k11⟩, ⟨h10, k10⟩, ⟨h9, k9⟩, ⟨h8, k8⟩, ⟨h7, k7⟩, ⟨h6, k6⟩, ⟨h5, k5⟩, ⟨h4, k4⟩, _⟩ := hs
  clear ha
  have g4 : [ρ 4, ρ 5, ρ 6, ρ 7] = wds 4 (eAdd 4 q (val [ρ 0, ρ 1, ρ 2, ρ 3]) (val [ρ 0, ρ 1, ρ 2, ρ 3])) := get4 rfl h4 h5 h6 h7
  have g8 : [ρ 8, ρ 9, ρ 10, ρ 11] = wds 4 (eAdd 4 q (val [ρ 4, ρ 5, ρ 6, ρ 7]) (val [ρ 4, ρ 5, ρ 6, ρ 7])) := get4 rfl h8 h9 h10 h11
  have g12 : [ρ 12, ρ 13, ρ 14, ρ 15] = wds 4 (eAdd 4 q (val [ρ 8, ρ 9, ρ 10, ρ 11]) (val [ρ 0, ρ 1, ρ 2, ρ 3])) := get4 rfl h12 h13 h14 h15
  change mul5F 4 q [ρ 0, ρ 1, ρ 2, ρ 3] = [ρ 12, ρ 13, ρ 14, ρ 15]
  simp only [mul5F]
  rw [g12, g8, g4]

/-! ### iMul5 -/
def su_iMul5 : Summ := ⟨[.agg 4], none, [.agg 4]⟩
def t_iMul50 : CT := .leaf ⟨[(7, .i .u64, .fn 33 [.v 0, .v 1, .v 2, .v 3] 3),
    (6, .i .u64, .fn 33 [.v 0, .v 1, .v 2, .v 3] 2),
    (5, .i .u64, .fn 33 [.v 0, .v 1, .v 2, .v 3] 1),
    (4, .i .u64, .fn 33 [.v 0, .v 1, .v 2, .v 3] 0)],
    [], [.v 4, .v 5, .v 6, .v 7]⟩
theorem chk_iMul5 : checkFn Try.prog [(33, su_mul5)] su_iMul5 400 Try.f20 (fun _ => t_iMul50) = true := by kernel_rfl
theorem ok_iMul5 : SummOK Try.prog 20 su_iMul5 (Phi 20) := by
  refine summ_fn (Φ := Phi) 400 (fun _ => t_iMul50) Try.func20 (tbl_cons ok_mul5 tbl_nil) chk_iMul5 ?_
  intro al hal l hl ρ hk hs ha
  have hn : su_iMul5.inKinds.length = 4 := rfl
  have hr : row ρ 4 = [ρ 0, ρ 1, ρ 2, ρ 3] := rfl
  rw [hn, hr] at hk ⊢
  simp only [su_iMul5, Summ.inKinds, List.flatMap_cons, List.flatMap_nil, List.replicate, List.cons_append, List.nil_append, List.append_nil, holdsAll, K.holds] at hk
  obtain ⟨b0, b1, b2, b3, _⟩ := hk
  simp only [t_iMul50, CT.leaves, List.cons_append, List.nil_append, List.mem_cons, List.not_mem_nil, or_false] at hl
  subst hl
  simp only [satTr_cons, satTr_nil, sv_lss, sv_leq, sv_gtr, sv_geq, sv_eql, sv_neq, sv_not, sv_beq, sv_pick, sv_add, sv_sub, sv_fn, sv_eqs, E.den, List.map, K.holds] at hs
  simp only [asrOK_cons, asrOK_nil, if_true, if_false, Bool.false_eq_true, E.den] at ha
  obtain ⟨⟨h7, k7⟩, ⟨h6, k6⟩, ⟨h5, k5⟩, ⟨h4, k4⟩, _⟩ := hs
  clear ha
  have g4 : [ρ 4, ρ 5, ρ 6, ρ 7] = mul5F 4 q [ρ 0, ρ 1, ρ 2, ρ 3] := get4 rfl h4 h5 h6 h7
  exact g4.symm

/-! ### lMulBy5 -/
def su_lMulBy5 : Summ := ⟨[.agg 4], none, [.sc .bool]⟩
def t_lMulBy50 : CT := .node (.v 9)
  (.leaf ⟨[(9, .bool, .not (.v 8)),
    (8, .bool, .fn 9 [.v 0, .v 1, .v 2, .v 3, .v 4, .v 5, .v 6, .v 7] 0),
    (7, .i .u64, .fn 10 [] 3),
    (6, .i .u64, .fn 10 [] 2),
    (5, .i .u64, .fn 10 [] 1),
    (4, .i .u64, .fn 10 [] 0)],
    [(.v 9, true)], [.c 1]⟩)
  (.leaf ⟨[(22, .bool, .fn 13 [.v 10, .v 11, .v 12, .v 13, .v 18, .v 19, .v 20, .v 21] 0),
    (21, .i .u64, .fn 21 [.c 5, .v 0, .v 1, .v 2, .v 3, .v 14, .v 15, .v 16, .v 17] 3),
    (20, .i .u64, .fn 21 [.c 5, .v 0, .v 1, .v 2, .v 3, .v 14, .v 15, .v 16, .v 17] 2),
    (19, .i .u64, .fn 21 [.c 5, .v 0, .v 1, .v 2, .v 3, .v 14, .v 15, .v 16, .v 17] 1),
    (18, .i .u64, .fn 21 [.c 5, .v 0, .v 1, .v 2, .v 3, .v 14, .v 15, .v 16, .v 17] 0),
    (17, .i .u64, .fn 10 [] 3),
    (16, .i .u64, .fn 10 [] 2),
    (15, .i .u64, .fn 10 [] 1),
    (14, .i .u64, .fn 10 [] 0),
    (13, .i .u64, .fn 20 [.v 0, .v 1, .v 2, .v 3] 3),
    (12, .i .u64, .fn 20 [.v 0, .v 1, .v 2, .v 3] 2),
    (11, .i .u64, .fn 20 [.v 0, .v 1, .v 2, .v 3] 1),
    (10, .i .u64, .fn 20 [.v 0, .v 1, .v 2, .v 3] 0),
    (9, .bool, .not (.v 8)),
    (8, .bool, .fn 9 [.v 0, .v 1, .v 2, .v 3, .v 4, .v 5, .v 6, .v 7] 0),
    (7, .i .u64, .fn 10 [] 3),
    (6, .i .u64, .fn 10 [] 2),
    (5, .i .u64, .fn 10 [] 1),
    (4, .i .u64, .fn 10 [] 0)],
    [(.v 9, false)], [.v 22]⟩)
theorem chk_lMulBy5 : checkFn Try.prog [(9, su_less), (10, su_prime), (20, su_iMul5), (21, su_times), (13, su_same)] su_lMulBy5 400 Try.f6 (fun _ => t_lMulBy50) = true := by kernel_rfl
theorem ok_lMulBy5 : SummOK Try.prog 6 su_lMulBy5 (Phi 6) := by
  refine summ_fn (Φ := Phi) 400 (fun _ => t_lMulBy50) Try.func6 (tbl_cons ok_less (tbl_cons ok_prime (tbl_cons ok_iMul5 (tbl_cons ok_times (tbl_cons ok_same tbl_nil))))) chk_lMulBy5 ?_
  intro al hal l hl ρ hk hs ha
  have hn : su_lMulBy5.inKinds.length = 4 := rfl
  have hr : row ρ 4 = [ρ 0, ρ 1, ρ 2, ρ 3] := rfl
  rw [hn, hr] at hk ⊢
  simp only [su_lMulBy5, Summ.inKinds, List.flatMap_cons, List.flatMap_nil, List.replicate, List.cons_append, List.nil_append, List.append_nil, holdsAll, K.holds] at hk
  obtain ⟨b0, b1, b2, b3, _⟩ := hk
  simp only [t_lMulBy50, CT.leaves, List.cons_append, List.nil_append, List.mem_cons, List.not_mem_nil, or_false] at hl
  rcases hl with rfl | rfl
  · simp only [satTr_cons, satTr_nil, sv_lss, sv_leq, sv_gtr, sv_geq, sv_eql, sv_neq, sv_not, sv_beq, sv_pick, sv_add, sv_sub, sv_fn, sv_eqs, E.den, List.map, K.holds] at hs
    simp only [asrOK_cons, asrOK_nil, if_true, if_false, Bool.false_eq_true, E.den] at ha
    obtain ⟨⟨h9, k9⟩, ⟨h8, k8⟩, ⟨h7, k7⟩, ⟨h6, k6⟩, ⟨h5, k5⟩, ⟨h4, k4⟩, _⟩ := hs
    obtain ⟨a0, _⟩ := ha
    have g4 : [ρ 4, ρ 5, ρ 6, ρ 7] = wds 4 q := get4 rfl h4 h5 h6 h7
    have e8 : ρ 8 = b2i (decide (val [ρ 0, ρ 1, ρ 2, ρ 3] < val [ρ 4, ρ 5, ρ 6, ρ 7])) := h8
    rw [st_dec] at e8
    rfl
  · simp only [satTr_cons, satTr_nil, sv_lss, sv_leq, sv_gtr, sv_geq, sv_eql, sv_neq, sv_not, sv_beq, sv_pick, sv_add, sv_sub, sv_fn, sv_eqs, E.den, List.map, K.holds] at hs
    simp only [asrOK_cons, asrOK_nil, if_true, if_false, Bool.false_eq_true, E.den] at ha
    obtain ⟨⟨h22, k22⟩, ⟨h21, k21⟩, ⟨h20, k20⟩, ⟨h19, k19⟩, ⟨h18, k18⟩, ⟨h17, k17⟩, ⟨h16, k16⟩, ⟨h15, k15⟩, ⟨h14, k14⟩, ⟨h13, k13⟩, ⟨h12, k12⟩, ⟨h11, k11⟩, ⟨h10, k10⟩, ⟨h9, k9⟩, ⟨h8, k8⟩, ⟨h7, k7⟩, ⟨h6, k6⟩, ⟨h5, k5⟩, ⟨h4, k4⟩, _⟩ := hs
    obtain ⟨a0, _⟩ := ha
    have g4 : [ρ 4, ρ 5, ρ 6, ρ 7] = wds 4 q := get4 rfl h4 h5 h6 h7
    have e8 : ρ 8 = b2i (decide (val [ρ 0, ρ 1, ρ 2, ρ 3] < val [ρ 4, ρ 5, ρ 6, ρ 7])) := h8
    rw [st_dec] at e8
    have g10 : [ρ 10, ρ 11, ρ 12, ρ 13] = mul5F 4 q [ρ 0, ρ 1, ρ 2, ρ 3] := get4 rfl h10 h11 h12 h13
    have g14 : [ρ 14, ρ 15, ρ 16, ρ 17] = wds 4 q := get4 rfl h14 h15 h16 h17
    have g18 : [ρ 18, ρ 19, ρ 20, ρ 21] = timesF 4 [5, ρ 0, ρ 1, ρ 2, ρ 3, ρ 14, ρ 15, ρ 16, ρ 17] := get4 rfl h18 h19 h20 h21
    have e22 : ρ 22 = b2i (decide ([ρ 10, ρ 11, ρ 12, ρ 13] = [ρ 18, ρ 19, ρ 20, ρ 21])) := h22
    rw [st_dec] at e22
    have hp : val (wds 4 q) = q := by kernel_rfl
    rw [g4, hp] at e8
    have ha : val [ρ 0, ρ 1, ρ 2, ρ 3] < q := by omega
    have hs : [ρ 10, ρ 11, ρ 12, ρ 13] = [ρ 18, ρ 19, ρ 20, ρ 21] := by
      rw [g10, g18]
      exact law_five (a := [ρ 0, ρ 1, ρ 2, ρ 3]) (m := [ρ 14, ρ 15, ρ 16, ρ 17]) (u64s_cons b0 (u64s_cons b1 (u64s_cons b2 (u64s_cons b3 u64s_nil)))) ha (by rw [g14, hp]) (by decide) (List.replicate 4 0) (by kernel_rfl)
    simp only [hs, true_and, not_true_eq_false, false_and, or_false] at e22
    change [1] = [ρ 22]
    rw [e22]

end Go.Proofs.Ytopoffodlfnejaa
