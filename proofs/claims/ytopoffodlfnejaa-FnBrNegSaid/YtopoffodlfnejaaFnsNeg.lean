/- The functions of the seat Ytopoffodlfnejaa, each once: its ways through the text, and what it comes to in numbers. Written by a program (gen.py). -/
import Derived.Test.YtopoffodlfnejaaSymU
import Derived.Test.YtopoffodlfnejaaSymZ
import Derived.Test.YtopoffodlfnejaaRows
set_option linter.unusedVariables false
set_option linter.unusedSimpArgs false
set_option maxRecDepth 4000
namespace Go.Proofs.Ytopoffodlfnejaa
open Go.Sym

def q : Int := 52435875175126190479447740508185965837690552500527637822603658699938581184513
def r : Int := 10920338887063814464675503992315976177888879664585288394250266608035967270910

def Phi : Nat → List Int → List Int
  | 9 => lessF 4
  | 13 => sameF 4
  | 10 => primeF 4 q
  | 30 => plusF 4
  | 29 => lessenF 4
  | 27 => addWF 4
  | 17 => subWF 4
  | 15 => setF 4 1
  | 21 => timesF 4
  | 38 => setF 4 0
  | 44 => setF 4 r
  | 25 => zeroF
  | 26 => isF 4 r
  | 41 => smallF q
  | 31 => eaddF 4 q
  | 32 => esubF 4 q
  | 42 => edblF 4 q
  | 28 => enegF 4 q
  | 37 => setF 4 r
  | 33 => mul5F 4 q
  | 24 => setF 4 r
  | 11 => zeroF
  | 12 => isF 4 r
  | 18 => aaddF 4 q
  | 19 => asubF 4 q
  | 16 => anegF 4 q
  | 20 => mul5F 4 q
  | 4 => fun _ => [1]
  | 5 => fun _ => [1]
  | 6 => fun _ => [1]
  | 8 => fun _ => [1]
  | 3 => fun _ => [1]
  | 40 => add64F
  | 39 => sub64F
  | 14 => shiftF 4
  | _ => fun _ => []

theorem ok_add64 : SummOK Try.prog 40 addSub (Phi 40) := summ_add64 Try.func40 (by kernel_rfl) (by kernel_rfl) (by kernel_rfl) (by kernel_rfl)

theorem ok_sub64 : SummOK Try.prog 39 addSub (Phi 39) := summ_sub64 Try.func39 (by kernel_rfl) (by kernel_rfl) (by kernel_rfl) (by kernel_rfl)

/-! ### less -/
def su_less : Summ := ⟨[.slc 4, .slc 4], none, [.sc .bool]⟩
def t_less0 : CT := .node (.v 8)
  (.leaf ⟨[(9, .bool, .cmp .lss (.v 3) (.v 7)),
    (8, .bool, .cmp .neq (.v 3) (.v 7))],
    [(.v 8, true)], [.v 9]⟩)
  (.node (.v 9)
  (.leaf ⟨[(10, .bool, .cmp .lss (.v 2) (.v 6)),
    (9, .bool, .cmp .neq (.v 2) (.v 6)),
    (8, .bool, .cmp .neq (.v 3) (.v 7))],
    [(.v 9, true), (.v 8, false)], [.v 10]⟩)
  (.node (.v 10)
  (.leaf ⟨[(11, .bool, .cmp .lss (.v 1) (.v 5)),
    (10, .bool, .cmp .neq (.v 1) (.v 5)),
    (9, .bool, .cmp .neq (.v 2) (.v 6)),
    (8, .bool, .cmp .neq (.v 3) (.v 7))],
    [(.v 10, true), (.v 9, false), (.v 8, false)], [.v 11]⟩)
  (.node (.v 11)
  (.leaf ⟨[(12, .bool, .cmp .lss (.v 0) (.v 4)),
    (11, .bool, .cmp .neq (.v 0) (.v 4)),
    (10, .bool, .cmp .neq (.v 1) (.v 5)),
    (9, .bool, .cmp .neq (.v 2) (.v 6)),
    (8, .bool, .cmp .neq (.v 3) (.v 7))],
    [(.v 11, true), (.v 10, false), (.v 9, false), (.v 8, false)], [.v 12]⟩)
  (.leaf ⟨[(11, .bool, .cmp .neq (.v 0) (.v 4)),
    (10, .bool, .cmp .neq (.v 1) (.v 5)),
    (9, .bool, .cmp .neq (.v 2) (.v 6)),
    (8, .bool, .cmp .neq (.v 3) (.v 7))],
    [(.v 11, false), (.v 10, false), (.v 9, false), (.v 8, false)], [.c 0]⟩))))
theorem chk_less : checkFn Try.prog [] su_less 400 Try.f9 (fun _ => t_less0) = true := by kernel_rfl
theorem ok_less : SummOK Try.prog 9 su_less (Phi 9) := by
  refine summ_fn (Φ := Phi) 400 (fun _ => t_less0) Try.func9 tbl_nil chk_less ?_
  intro al hal l hl ρ hk hs ha
  have hn : su_less.inKinds.length = 8 := rfl
  have hr : row ρ 8 = [ρ 0, ρ 1, ρ 2, ρ 3, ρ 4, ρ 5, ρ 6, ρ 7] := rfl
  rw [hn, hr] at hk ⊢
  simp only [su_less, Summ.inKinds, List.flatMap_cons, List.flatMap_nil, List.replicate, List.cons_append, List.nil_append, List.append_nil, holdsAll, K.holds] at hk
  obtain ⟨b0, b1, b2, b3, b4, b5, b6, b7, _⟩ := hk
  simp only [t_less0, CT.leaves, List.cons_append, List.nil_append, List.mem_cons, List.not_mem_nil, or_false] at hl
  rcases hl with rfl | rfl | rfl | rfl | rfl
  · simp only [satTr_cons, satTr_nil, sv_lss, sv_leq, sv_gtr, sv_geq, sv_eql, sv_neq, sv_not, sv_beq, sv_pick, sv_add, sv_sub, sv_fn, sv_eqs, E.den, List.map, K.holds] at hs
    simp only [asrOK_cons, asrOK_nil, if_true, if_false, Bool.false_eq_true, E.den] at ha
    obtain ⟨⟨h9, k9⟩, ⟨h8, k8⟩, _⟩ := hs
    obtain ⟨a0, _⟩ := ha
    refine dec_one (p := val [ρ 0, ρ 1, ρ 2, ρ 3] < val [ρ 4, ρ 5, ρ 6, ρ 7]) (z := ρ 9) ?_
    simp only [val, q, List.cons.injEq, and_true]
    omega
  · simp only [satTr_cons, satTr_nil, sv_lss, sv_leq, sv_gtr, sv_geq, sv_eql, sv_neq, sv_not, sv_beq, sv_pick, sv_add, sv_sub, sv_fn, sv_eqs, E.den, List.map, K.holds] at hs
    simp only [asrOK_cons, asrOK_nil, if_true, if_false, Bool.false_eq_true, E.den] at ha
    obtain ⟨⟨h10, k10⟩, ⟨h9, k9⟩, ⟨h8, k8⟩, _⟩ := hs
    obtain ⟨a0, a1, _⟩ := ha
    refine dec_one (p := val [ρ 0, ρ 1, ρ 2, ρ 3] < val [ρ 4, ρ 5, ρ 6, ρ 7]) (z := ρ 10) ?_
    simp only [val, q, List.cons.injEq, and_true]
    omega
  · simp only [satTr_cons, satTr_nil, sv_lss, sv_leq, sv_gtr, sv_geq, sv_eql, sv_neq, sv_not, sv_beq, sv_pick, sv_add, sv_sub, sv_fn, sv_eqs, E.den, List.map, K.holds] at hs
    simp only [asrOK_cons, asrOK_nil, if_true, if_false, Bool.false_eq_true, E.den] at ha
    obtain ⟨⟨h11, k11⟩, ⟨h10, k10⟩, ⟨h9, k9⟩, ⟨h8, k8⟩, _⟩ := hs
    obtain ⟨a0, a1, a2, _⟩ := ha
    refine dec_one (p := val [ρ 0, ρ 1, ρ 2, ρ 3] < val [ρ 4, ρ 5, ρ 6, ρ 7]) (z := ρ 11) ?_
    simp only [val, q, List.cons.injEq, and_true]
    omega
  · simp only [satTr_cons, satTr_nil, sv_lss, sv_leq, sv_gtr, sv_geq, sv_eql, sv_neq, sv_not, sv_beq, sv_pick, sv_add, sv_sub, sv_fn, sv_eqs, E.den, List.map, K.holds] at hs
    simp only [asrOK_cons, asrOK_nil, if_true, if_false, Bool.false_eq_true, E.den] at ha
    obtain ⟨⟨h12, k12⟩, ⟨h11, k11⟩, ⟨h10, k10⟩, ⟨h9, k9⟩, ⟨h8, k8⟩, _⟩ := hs
    obtain ⟨a0, a1, a2, a3, _⟩ := ha
    refine dec_one (p := val [ρ 0, ρ 1, ρ 2, ρ 3] < val [ρ 4, ρ 5, ρ 6, ρ 7]) (z := ρ 12) ?_
    simp only [val, q, List.cons.injEq, and_true]
    omega
  · simp only [satTr_cons, satTr_nil, sv_lss, sv_leq, sv_gtr, sv_geq, sv_eql, sv_neq, sv_not, sv_beq, sv_pick, sv_add, sv_sub, sv_fn, sv_eqs, E.den, List.map, K.holds] at hs
    simp only [asrOK_cons, asrOK_nil, if_true, if_false, Bool.false_eq_true, E.den] at ha
    obtain ⟨⟨h11, k11⟩, ⟨h10, k10⟩, ⟨h9, k9⟩, ⟨h8, k8⟩, _⟩ := hs
    obtain ⟨a0, a1, a2, a3, _⟩ := ha
    refine dec_one (p := val [ρ 0, ρ 1, ρ 2, ρ 3] < val [ρ 4, ρ 5, ρ 6, ρ 7]) (z := 0) ?_
    simp only [val, q, List.cons.injEq, and_true]
    omega

/-! ### same -/
def su_same : Summ := ⟨[.slc 4, .slc 4], none, [.sc .bool]⟩
def t_same0 : CT := .node (.v 8)
  (.leaf ⟨[(8, .bool, .cmp .neq (.v 0) (.v 4))],
    [(.v 8, true)], [.c 0]⟩)
  (.node (.v 9)
  (.leaf ⟨[(9, .bool, .cmp .neq (.v 1) (.v 5)),
    (8, .bool, .cmp .neq (.v 0) (.v 4))],
    [(.v 9, true), (.v 8, false)], [.c 0]⟩)
  (.node (.v 10)
  (.leaf ⟨[(10, .bool, .cmp .neq (.v 2) (.v 6)),
    (9, .bool, .cmp .neq (.v 1) (.v 5)),
    (8, .bool, .cmp .neq (.v 0) (.v 4))],
    [(.v 10, true), (.v 9, false), (.v 8, false)], [.c 0]⟩)
  (.node (.v 11)
  (.leaf ⟨[(11, .bool, .cmp .neq (.v 3) (.v 7)),
    (10, .bool, .cmp .neq (.v 2) (.v 6)),
    (9, .bool, .cmp .neq (.v 1) (.v 5)),
    (8, .bool, .cmp .neq (.v 0) (.v 4))],
    [(.v 11, true), (.v 10, false), (.v 9, false), (.v 8, false)], [.c 0]⟩)
  (.leaf ⟨[(11, .bool, .cmp .neq (.v 3) (.v 7)),
    (10, .bool, .cmp .neq (.v 2) (.v 6)),
    (9, .bool, .cmp .neq (.v 1) (.v 5)),
    (8, .bool, .cmp .neq (.v 0) (.v 4))],
    [(.v 11, false), (.v 10, false), (.v 9, false), (.v 8, false)], [.c 1]⟩))))
theorem chk_same : checkFn Try.prog [] su_same 400 Try.f13 (fun _ => t_same0) = true := by kernel_rfl
theorem ok_same : SummOK Try.prog 13 su_same (Phi 13) := by
  refine summ_fn (Φ := Phi) 400 (fun _ => t_same0) Try.func13 tbl_nil chk_same ?_
  intro al hal l hl ρ hk hs ha
  have hn : su_same.inKinds.length = 8 := rfl
  have hr : row ρ 8 = [ρ 0, ρ 1, ρ 2, ρ 3, ρ 4, ρ 5, ρ 6, ρ 7] := rfl
  rw [hn, hr] at hk ⊢
  simp only [su_same, Summ.inKinds, List.flatMap_cons, List.flatMap_nil, List.replicate, List.cons_append, List.nil_append, List.append_nil, holdsAll, K.holds] at hk
  obtain ⟨b0, b1, b2, b3, b4, b5, b6, b7, _⟩ := hk
  simp only [t_same0, CT.leaves, List.cons_append, List.nil_append, List.mem_cons, List.not_mem_nil, or_false] at hl
  rcases hl with rfl | rfl | rfl | rfl | rfl
  · simp only [satTr_cons, satTr_nil, sv_lss, sv_leq, sv_gtr, sv_geq, sv_eql, sv_neq, sv_not, sv_beq, sv_pick, sv_add, sv_sub, sv_fn, sv_eqs, E.den, List.map, K.holds] at hs
    simp only [asrOK_cons, asrOK_nil, if_true, if_false, Bool.false_eq_true, E.den] at ha
    obtain ⟨⟨h8, k8⟩, _⟩ := hs
    obtain ⟨a0, _⟩ := ha
    refine dec_one (p := [ρ 0, ρ 1, ρ 2, ρ 3] = [ρ 4, ρ 5, ρ 6, ρ 7]) (z := 0) ?_
    simp only [val, q, List.cons.injEq, and_true]
    omega
  · simp only [satTr_cons, satTr_nil, sv_lss, sv_leq, sv_gtr, sv_geq, sv_eql, sv_neq, sv_not, sv_beq, sv_pick, sv_add, sv_sub, sv_fn, sv_eqs, E.den, List.map, K.holds] at hs
    simp only [asrOK_cons, asrOK_nil, if_true, if_false, Bool.false_eq_true, E.den] at ha
    obtain ⟨⟨h9, k9⟩, ⟨h8, k8⟩, _⟩ := hs
    obtain ⟨a0, a1, _⟩ := ha
    refine dec_one (p := [ρ 0, ρ 1, ρ 2, ρ 3] = [ρ 4, ρ 5, ρ 6, ρ 7]) (z := 0) ?_
    simp only [val, q, List.cons.injEq, and_true]
    omega
  · simp only [satTr_cons, satTr_nil, sv_lss, sv_leq, sv_gtr, sv_geq, sv_eql, sv_neq, sv_not, sv_beq, sv_pick, sv_add, sv_sub, sv_fn, sv_eqs, E.den, List.map, K.holds] at hs
    simp only [asrOK_cons, asrOK_nil, if_true, if_false, Bool.false_eq_true, E.den] at ha
    obtain ⟨⟨h10, k10⟩, ⟨h9, k9⟩, ⟨h8, k8⟩, _⟩ := hs
    obtain ⟨a0, a1, a2, _⟩ := ha
    refine dec_one (p := [ρ 0, ρ 1, ρ 2, ρ 3] = [ρ 4, ρ 5, ρ 6, ρ 7]) (z := 0) ?_
    simp only [val, q, List.cons.injEq, and_true]
    omega
  · simp only [satTr_cons, satTr_nil, sv_lss, sv_leq, sv_gtr, sv_geq, sv_eql, sv_neq, sv_not, sv_beq, sv_pick, sv_add, sv_sub, sv_fn, sv_eqs, E.den, List.map, K.holds] at hs
    simp only [asrOK_cons, asrOK_nil, if_true, if_false, Bool.false_eq_true, E.den] at ha
    obtain ⟨⟨h11, k11⟩, ⟨h10, k10⟩, ⟨h9, k9⟩, ⟨h8, k8⟩, _⟩ := hs
    obtain ⟨a0, a1, a2, a3, _⟩ := ha
    refine dec_one (p := [ρ 0, ρ 1, ρ 2, ρ 3] = [ρ 4, ρ 5, ρ 6, ρ 7]) (z := 0) ?_
    simp only [val, q, List.cons.injEq, and_true]
    omega
  · simp only [satTr_cons, satTr_nil, sv_lss, sv_leq, sv_gtr, sv_geq, sv_eql, sv_neq, sv_not, sv_beq, sv_pick, sv_add, sv_sub, sv_fn, sv_eqs, E.den, List.map, K.holds] at hs
    simp only [asrOK_cons, asrOK_nil, if_true, if_false, Bool.false_eq_true, E.den] at ha
    obtain ⟨⟨h11, k11⟩, ⟨h10, k10⟩, ⟨h9, k9⟩, ⟨h8, k8⟩, _⟩ := hs
    obtain ⟨a0, a1, a2, a3, _⟩ := ha
    refine dec_one (p := [ρ 0, ρ 1, ρ 2, ρ 3] = [ρ 4, ρ 5, ρ 6, ρ 7]) (z := 1) ?_
    simp only [val, q, List.cons.injEq, and_true]
    omega

/-! ### prime -/
def su_prime : Summ := ⟨[], none, [.slc 4]⟩
def t_prime0 : CT := .leaf ⟨[],
    [], [.c 18446744069414584321, .c 6034159408538082302, .c 3691218898639771653, .c 8353516859464449352]⟩
theorem chk_prime : checkFn Try.prog [] su_prime 400 Try.f10 (fun _ => t_prime0) = true := by kernel_rfl
theorem ok_prime : SummOK Try.prog 10 su_prime (Phi 10) := by
  refine summ_fn (Φ := Phi) 400 (fun _ => t_prime0) Try.func10 tbl_nil chk_prime ?_
  intro al hal l hl ρ hk hs ha
  have hn : su_prime.inKinds.length = 0 := rfl
  have hr : row ρ 0 = [] := rfl
  rw [hn, hr] at hk ⊢
  simp only [su_prime, Summ.inKinds, List.flatMap_cons, List.flatMap_nil, List.replicate, List.cons_append, List.nil_append, List.append_nil, holdsAll, K.holds] at hk
  simp only [t_prime0, CT.leaves, List.cons_append, List.nil_append, List.mem_cons, List.not_mem_nil, or_false] at hl
  subst hl
  simp only [satTr_cons, satTr_nil, sv_lss, sv_leq, sv_gtr, sv_geq, sv_eql, sv_neq, sv_not, sv_beq, sv_pick, sv_add, sv_sub, sv_fn, sv_eqs, E.den, List.map, K.holds] at hs
  simp only [asrOK_cons, asrOK_nil, if_true, if_false, Bool.false_eq_true, E.den] at ha
  clear hs
  clear ha
  change wds 4 q = [18446744069414584321, 6034159408538082302, 3691218898639771653, 8353516859464449352]
  kernel_rfl

/-! ### plus -/
def su_plus : Summ := ⟨[.slc 4, .slc 4], none, [.slc 4, .sc .bool]⟩
def t_plus0 : CT := .leaf ⟨[(32, .bool, .cmp .eql (.v 31) (.c 1)),
    (31, .i .u64, .pick (.v 30) (.c 1) (.c 0)),
    (30, .bool, .pick (.v 27) (.c 1) (.v 29)),
    (29, .bool, .cmp .lss (.v 28) (.v 26)),
    (28, .i .u64, .bin .add .u64 (.v 26) (.v 7)),
    (27, .bool, .cmp .lss (.v 26) (.v 25)),
    (26, .i .u64, .bin .add .u64 (.v 3) (.v 25)),
    (25, .i .u64, .pick (.v 24) (.c 1) (.c 0)),
    (24, .bool, .pick (.v 21) (.c 1) (.v 23)),
    (23, .bool, .cmp .lss (.v 22) (.v 20)),
    (22, .i .u64, .bin .add .u64 (.v 20) (.v 6)),
    (21, .bool, .cmp .lss (.v 20) (.v 19)),
    (20, .i .u64, .bin .add .u64 (.v 2) (.v 19)),
    (19, .i .u64, .pick (.v 18) (.c 1) (.c 0)),
    (18, .bool, .pick (.v 15) (.c 1) (.v 17)),
    (17, .bool, .cmp .lss (.v 16) (.v 14)),
    (16, .i .u64, .bin .add .u64 (.v 14) (.v 5)),
    (15, .bool, .cmp .lss (.v 14) (.v 13)),
    (14, .i .u64, .bin .add .u64 (.v 1) (.v 13)),
    (13, .i .u64, .pick (.v 12) (.c 1) (.c 0)),
    (12, .bool, .pick (.v 9) (.c 1) (.v 11)),
    (11, .bool, .cmp .lss (.v 10) (.v 8)),
    (10, .i .u64, .bin .add .u64 (.v 8) (.v 4)),
    (9, .bool, .cmp .lss (.v 8) (.c 0)),
    (8, .i .u64, .bin .add .u64 (.v 0) (.c 0))],
    [], [.v 10, .v 16, .v 22, .v 28, .v 32]⟩
theorem chk_plus : checkFn Try.prog [] su_plus 400 Try.f30 (fun _ => t_plus0) = true := by kernel_rfl
theorem ok_plus : SummOK Try.prog 30 su_plus (Phi 30) := by
  refine summ_fn (Φ := Phi) 400 (fun _ => t_plus0) Try.func30 tbl_nil chk_plus ?_
  intro al hal l hl ρ hk hs ha
  have hn : su_plus.inKinds.length = 8 := rfl
  have hr : row ρ 8 = [ρ 0, ρ 1, ρ 2, ρ 3, ρ 4, ρ 5, ρ 6, ρ 7] := rfl
  rw [hn, hr] at hk ⊢
  simp only [su_plus, Summ.inKinds, List.flatMap_cons, List.flatMap_nil, List.replicate, List.cons_append, List.nil_append, List.append_nil, holdsAll, K.holds] at hk
  obtain ⟨b0, b1, b2, b3, b4, b5, b6, b7, _⟩ := hk
  simp only [t_plus0, CT.leaves, List.cons_append, List.nil_append, List.mem_cons, List.not_mem_nil, or_false] at hl
  subst hl
  simp only [satTr_cons, satTr_nil, sv_lss, sv_leq, sv_gtr, sv_geq, sv_eql, sv_neq, sv_not, sv_beq, sv_pick, sv_add, sv_sub, sv_fn, sv_eqs, E.den, List.map, K.holds] at hs
  simp only [asrOK_cons, asrOK_nil, if_true, if_false, Bool.false_eq_true, E.den] at ha
  obtain ⟨⟨h32, k32⟩, ⟨h31, k31⟩, ⟨h30, k30⟩, ⟨h29, k29⟩, ⟨h28, k28⟩, ⟨h27, k27⟩, ⟨h26, k26⟩, ⟨h25, k25⟩, ⟨h24, k24⟩, ⟨h23, k23⟩, ⟨h22, k22⟩, ⟨h21, k21⟩, ⟨h20, k20⟩, ⟨h19, k19⟩, ⟨h18, k18⟩, ⟨h17, k17⟩, ⟨h16, k16⟩, ⟨h15, k15⟩, ⟨h14, k14⟩, ⟨h13, k13⟩, ⟨h12, k12⟩, ⟨h11, k11⟩, ⟨h10, k10⟩, ⟨h9, k9⟩, ⟨h8, k8⟩, _⟩ := hs
  clear ha
  obtain ⟨r0, c0⟩ := plus_round b0 b4 (.inl rfl) h8 h9 h10 h11 h12 h13
  obtain ⟨r1, c1⟩ := plus_round b1 b5 c0 h14 h15 h16 h17 h18 h19
  obtain ⟨r2, c2⟩ := plus_round b2 b6 c1 h20 h21 h22 h23 h24 h25
  obtain ⟨r3, c3⟩ := plus_round b3 b7 c2 h26 h27 h28 h29 h30 h31
  clear h8 h9 h10 h11 h12 h13 h14 h15 h16 h17 h18 h19 h20 h21 h22 h23 h24 h25 h26 h27 h28 h29 h30 h31
  refine plus_done (n := 4) (a := [ρ 0, ρ 1, ρ 2, ρ 3]) (b := [ρ 4, ρ 5, ρ 6, ρ 7]) (s := [ρ 10, ρ 16, ρ 22, ρ 28]) (c := ρ 31) (d := ρ 32) (u64s_cons k10 (u64s_cons k16 (u64s_cons k22 (u64s_cons k28 u64s_nil)))) rfl ?_ c3 h32
  simp only [val, big]
  omega

/-! ### lessen -/
def su_lessen : Summ := ⟨[.slc 4, .slc 4], none, [.slc 4, .sc .bool]⟩
def t_lessen0 : CT := .leaf ⟨[(32, .bool, .cmp .eql (.v 31) (.c 1)),
    (31, .i .u64, .pick (.v 30) (.c 1) (.c 0)),
    (30, .bool, .pick (.v 27) (.c 1) (.v 29)),
    (29, .bool, .cmp .lss (.v 26) (.v 7)),
    (28, .i .u64, .bin .sub .u64 (.v 26) (.v 7)),
    (27, .bool, .cmp .lss (.v 3) (.v 25)),
    (26, .i .u64, .bin .sub .u64 (.v 3) (.v 25)),
    (25, .i .u64, .pick (.v 24) (.c 1) (.c 0)),
    (24, .bool, .pick (.v 21) (.c 1) (.v 23)),
    (23, .bool, .cmp .lss (.v 20) (.v 6)),
    (22, .i .u64, .bin .sub .u64 (.v 20) (.v 6)),
    (21, .bool, .cmp .lss (.v 2) (.v 19)),
    (20, .i .u64, .bin .sub .u64 (.v 2) (.v 19)),
    (19, .i .u64, .pick (.v 18) (.c 1) (.c 0)),
    (18, .bool, .pick (.v 15) (.c 1) (.v 17)),
    (17, .bool, .cmp .lss (.v 14) (.v 5)),
    (16, .i .u64, .bin .sub .u64 (.v 14) (.v 5)),
    (15, .bool, .cmp .lss (.v 1) (.v 13)),
    (14, .i .u64, .bin .sub .u64 (.v 1) (.v 13)),
    (13, .i .u64, .pick (.v 12) (.c 1) (.c 0)),
    (12, .bool, .pick (.v 9) (.c 1) (.v 11)),
    (11, .bool, .cmp .lss (.v 8) (.v 4)),
    (10, .i .u64, .bin .sub .u64 (.v 8) (.v 4)),
    (9, .bool, .cmp .lss (.v 0) (.c 0)),
    (8, .i .u64, .bin .sub .u64 (.v 0) (.c 0))],
    [], [.v 10, .v 16, .v 22, .v 28, .v 32]⟩
theorem chk_lessen : checkFn Try.prog [] su_lessen 400 Try.f29 (fun _ => t_lessen0) = true := by kernel_rfl
theorem ok_lessen : SummOK Try.prog 29 su_lessen (Phi 29) := by
  refine summ_fn (Φ := Phi) 400 (fun _ => t_lessen0) Try.func29 tbl_nil chk_lessen ?_
  intro al hal l hl ρ hk hs ha
  have hn : su_lessen.inKinds.length = 8 := rfl
  have hr : row ρ 8 = [ρ 0, ρ 1, ρ 2, ρ 3, ρ 4, ρ 5, ρ 6, ρ 7] := rfl
  rw [hn, hr] at hk ⊢
  simp only [su_lessen, Summ.inKinds, List.flatMap_cons, List.flatMap_nil, List.replicate, List.cons_append, List.nil_append, List.append_nil, holdsAll, K.holds] at hk
  obtain ⟨b0, b1, b2, b3, b4, b5, b6, b7, _⟩ := hk
  simp only [t_lessen0, CT.leaves, List.cons_append, List.nil_append, List.mem_cons, List.not_mem_nil, or_false] at hl
  subst hl
  simp only [satTr_cons, satTr_nil, sv_lss, sv_leq, sv_gtr, sv_geq, sv_eql, sv_neq, sv_not, sv_beq, sv_pick, sv_add, sv_sub, sv_fn, sv_eqs, E.den, List.map, K.holds] at hs
  simp only [asrOK_cons, asrOK_nil, if_true, if_false, Bool.false_eq_true, E.den] at ha
  obtain ⟨⟨h32, k32⟩, ⟨h31, k31⟩, ⟨h30, k30⟩, ⟨h29, k29⟩, ⟨h28, k28⟩, ⟨h27, k27⟩, ⟨h26, k26⟩, ⟨h25, k25⟩, ⟨h24, k24⟩, ⟨h23, k23⟩, ⟨h22, k22⟩, ⟨h21, k21⟩, ⟨h20, k20⟩, ⟨h19, k19⟩, ⟨h18, k18⟩, ⟨h17, k17⟩, ⟨h16, k16⟩, ⟨h15, k15⟩, ⟨h14, k14⟩, ⟨h13, k13⟩, ⟨h12, k12⟩, ⟨h11, k11⟩, ⟨h10, k10⟩, ⟨h9, k9⟩, ⟨h8, k8⟩, _⟩ := hs
  clear ha
  obtain ⟨r0, c0⟩ := lessen_round b0 b4 (.inl rfl) h8 h9 h10 h11 h12 h13
  obtain ⟨r1, c1⟩ := lessen_round b1 b5 c0 h14 h15 h16 h17 h18 h19
  obtain ⟨r2, c2⟩ := lessen_round b2 b6 c1 h20 h21 h22 h23 h24 h25
  obtain ⟨r3, c3⟩ := lessen_round b3 b7 c2 h26 h27 h28 h29 h30 h31
  clear h8 h9 h10 h11 h12 h13 h14 h15 h16 h17 h18 h19 h20 h21 h22 h23 h24 h25 h26 h27 h28 h29 h30 h31
  refine lessen_done (n := 4) (a := [ρ 0, ρ 1, ρ 2, ρ 3]) (b := [ρ 4, ρ 5, ρ 6, ρ 7]) (s := [ρ 10, ρ 16, ρ 22, ρ 28]) (c := ρ 31) (d := ρ 32) (u64s_cons k10 (u64s_cons k16 (u64s_cons k22 (u64s_cons k28 u64s_nil)))) rfl ?_ c3 h32
  simp only [val, big]
  omega

/-! ### subW -/
def su_subW : Summ := ⟨[.slc 4, .slc 4, .slc 4], none, [.slc 4]⟩
def t_subW0 : CT := .node (.v 16)
  (.leaf ⟨[(21, .bool, .fn 30 [.v 12, .v 13, .v 14, .v 15, .v 8, .v 9, .v 10, .v 11] 4),
    (20, .i .u64, .fn 30 [.v 12, .v 13, .v 14, .v 15, .v 8, .v 9, .v 10, .v 11] 3),
    (19, .i .u64, .fn 30 [.v 12, .v 13, .v 14, .v 15, .v 8, .v 9, .v 10, .v 11] 2),
    (18, .i .u64, .fn 30 [.v 12, .v 13, .v 14, .v 15, .v 8, .v 9, .v 10, .v 11] 1),
    (17, .i .u64, .fn 30 [.v 12, .v 13, .v 14, .v 15, .v 8, .v 9, .v 10, .v 11] 0),
    (16, .bool, .fn 29 [.v 0, .v 1, .v 2, .v 3, .v 4, .v 5, .v 6, .v 7] 4),
    (15, .i .u64, .fn 29 [.v 0, .v 1, .v 2, .v 3, .v 4, .v 5, .v 6, .v 7] 3),
    (14, .i .u64, .fn 29 [.v 0, .v 1, .v 2, .v 3, .v 4, .v 5, .v 6, .v 7] 2),
    (13, .i .u64, .fn 29 [.v 0, .v 1, .v 2, .v 3, .v 4, .v 5, .v 6, .v 7] 1),
    (12, .i .u64, .fn 29 [.v 0, .v 1, .v 2, .v 3, .v 4, .v 5, .v 6, .v 7] 0)],
    [(.v 16, true)], [.v 17, .v 18, .v 19, .v 20]⟩)
  (.leaf ⟨[(16, .bool, .fn 29 [.v 0, .v 1, .v 2, .v 3, .v 4, .v 5, .v 6, .v 7] 4),
    (15, .i .u64, .fn 29 [.v 0, .v 1, .v 2, .v 3, .v 4, .v 5, .v 6, .v 7] 3),
    (14, .i .u64, .fn 29 [.v 0, .v 1, .v 2, .v 3, .v 4, .v 5, .v 6, .v 7] 2),
    (13, .i .u64, .fn 29 [.v 0, .v 1, .v 2, .v 3, .v 4, .v 5, .v 6, .v 7] 1),
    (12, .i .u64, .fn 29 [.v 0, .v 1, .v 2, .v 3, .v 4, .v 5, .v 6, .v 7] 0)],
    [(.v 16, false)], [.v 12, .v 13, .v 14, .v 15]⟩)
theorem chk_subW : checkFn Try.prog [(30, su_plus), (29, su_lessen)] su_subW 400 Try.f17 (fun _ => t_subW0) = true := by kernel_rfl
theorem ok_subW : SummOK Try.prog 17 su_subW (Phi 17) := by
  refine summ_fn (Φ := Phi) 400 (fun _ => t_subW0) Try.func17 (tbl_cons ok_plus (tbl_cons ok_lessen tbl_nil)) chk_subW ?_
  intro al hal l hl ρ hk hs ha
  have hn : su_subW.inKinds.length = 12 := rfl
  have hr : row ρ 12 = [ρ 0, ρ 1, ρ 2, ρ 3, ρ 4, ρ 5, ρ 6, ρ 7, ρ 8, ρ 9, ρ 10, ρ 11] := rfl
  rw [hn, hr] at hk ⊢
  simp only [su_subW, Summ.inKinds, List.flatMap_cons, List.flatMap_nil, List.replicate, List.cons_append, List.nil_append, List.append_nil, holdsAll, K.holds] at hk
  obtain ⟨b0, b1, b2, b3, b4, b5, b6, b7, b8, b9, b10, b11, _⟩ := hk
  simp only [t_subW0, CT.leaves, List.cons_append, List.nil_append, List.mem_cons, List.not_mem_nil, or_false] at hl
  rcases hl with rfl | rfl
  · simp only [satTr_cons, satTr_nil, sv_lss, sv_leq, sv_gtr, sv_geq, sv_eql, sv_neq, sv_not, sv_beq, sv_pick, sv_add, sv_sub, sv_fn, sv_eqs, E.den, List.map, K.holds] at hs
    simp only [asrOK_cons, asrOK_nil, if_true, if_false, Bool.false_eq_true, E.den] at ha
    obtain ⟨⟨h21, k21⟩, ⟨h20, k20⟩, ⟨h19, k19⟩, ⟨h18, k18⟩, ⟨h17, k17⟩, ⟨h16, k16⟩, ⟨h15, k15⟩, ⟨h14, k14⟩, ⟨h13, k13⟩, ⟨h12, k12⟩, _⟩ := hs
    obtain ⟨a0, _⟩ := ha
    have g12 : [ρ 12, ρ 13, ρ 14, ρ 15] = wds 4 (val [ρ 0, ρ 1, ρ 2, ρ 3] - val [ρ 4, ρ 5, ρ 6, ρ 7]) := get4 rfl h12 h13 h14 h15
    have e16 : ρ 16 = b2i (decide (val [ρ 0, ρ 1, ρ 2, ρ 3] < val [ρ 4, ρ 5, ρ 6, ρ 7])) := h16
    rw [st_dec] at e16
    have g17 : [ρ 17, ρ 18, ρ 19, ρ 20] = wds 4 (val [ρ 12, ρ 13, ρ 14, ρ 15] + val [ρ 8, ρ 9, ρ 10, ρ 11]) := get4 rfl h17 h18 h19 h20
    have e21 : ρ 21 = b2i (decide (big 4 ≤ val [ρ 12, ρ 13, ρ 14, ρ 15] + val [ρ 8, ρ 9, ρ 10, ρ 11])) := h21
    rw [st_dec] at e21
    change wds 4 (subM (val [ρ 0, ρ 1, ρ 2, ρ 3]) (val [ρ 4, ρ 5, ρ 6, ρ 7]) (val [ρ 8, ρ 9, ρ 10, ρ 11])) = [ρ 17, ρ 18, ρ 19, ρ 20]
    by_cases hq : val [ρ 0, ρ 1, ρ 2, ρ 3] < val [ρ 4, ρ 5, ρ 6, ρ 7]
    · rw [g17, g12]; exact subW_yes hq
    · simp only [hq, not_false_eq_true, true_and, false_and, false_or] at e16; omega
  · simp only [satTr_cons, satTr_nil, sv_lss, sv_leq, sv_gtr, sv_geq, sv_eql, sv_neq, sv_not, sv_beq, sv_pick, sv_add, sv_sub, sv_fn, sv_eqs, E.den, List.map, K.holds] at hs
    simp only [asrOK_cons, asrOK_nil, if_true, if_false, Bool.false_eq_true, E.den] at ha
    obtain ⟨⟨h16, k16⟩, ⟨h15, k15⟩, ⟨h14, k14⟩, ⟨h13, k13⟩, ⟨h12, k12⟩, _⟩ := hs
    obtain ⟨a0, _⟩ := ha
    have g12 : [ρ 12, ρ 13, ρ 14, ρ 15] = wds 4 (val [ρ 0, ρ 1, ρ 2, ρ 3] - val [ρ 4, ρ 5, ρ 6, ρ 7]) := get4 rfl h12 h13 h14 h15
    have e16 : ρ 16 = b2i (decide (val [ρ 0, ρ 1, ρ 2, ρ 3] < val [ρ 4, ρ 5, ρ 6, ρ 7])) := h16
    rw [st_dec] at e16
    change wds 4 (subM (val [ρ 0, ρ 1, ρ 2, ρ 3]) (val [ρ 4, ρ 5, ρ 6, ρ 7]) (val [ρ 8, ρ 9, ρ 10, ρ 11])) = [ρ 12, ρ 13, ρ 14, ρ 15]
    by_cases hq : val [ρ 0, ρ 1, ρ 2, ρ 3] < val [ρ 4, ρ 5, ρ 6, ρ 7]
    · simp only [hq, not_true_eq_false, true_and, false_and, or_false] at e16; omega
    · rw [g12]; exact subW_no hq

/-! ### zero -/
def su_zero : Summ := ⟨[.ptr 4], (some 0), [.arg 0]⟩
def t_zero0 : CT := .leaf ⟨[],
    [], [.c 0, .c 0, .c 0, .c 0]⟩
theorem chk_zero : checkFn Try.prog [] su_zero 400 Try.f38 (fun _ => t_zero0) = true := by kernel_rfl
theorem ok_zero : SummOK Try.prog 38 su_zero (Phi 38) := by
  refine summ_fn (Φ := Phi) 400 (fun _ => t_zero0) Try.func38 tbl_nil chk_zero ?_
  intro al hal l hl ρ hk hs ha
  have hn : su_zero.inKinds.length = 4 := rfl
  have hr : row ρ 4 = [ρ 0, ρ 1, ρ 2, ρ 3] := rfl
  rw [hn, hr] at hk ⊢
  simp only [su_zero, Summ.inKinds, List.flatMap_cons, List.flatMap_nil, List.replicate, List.cons_append, List.nil_append, List.append_nil, holdsAll, K.holds] at hk
  obtain ⟨b0, b1, b2, b3, _⟩ := hk
  simp only [t_zero0, CT.leaves, List.cons_append, List.nil_append, List.mem_cons, List.not_mem_nil, or_false] at hl
  subst hl
  simp only [satTr_cons, satTr_nil, sv_lss, sv_leq, sv_gtr, sv_geq, sv_eql, sv_neq, sv_not, sv_beq, sv_pick, sv_add, sv_sub, sv_fn, sv_eqs, E.den, List.map, K.holds] at hs
  simp only [asrOK_cons, asrOK_nil, if_true, if_false, Bool.false_eq_true, E.den] at ha
  clear hs
  clear ha
  change wds 4 0 = [0, 0, 0, 0]
  kernel_rfl

/-! ### isZero -/
def su_isZero : Summ := ⟨[.ptr 4], none, [.sc .bool]⟩
def t_isZero0 : CT := .leaf ⟨[(7, .bool, .cmp .eql (.v 6) (.c 0)),
    (6, .i .u64, .bin .or .u64 (.v 5) (.v 0)),
    (5, .i .u64, .bin .or .u64 (.v 4) (.v 1)),
    (4, .i .u64, .bin .or .u64 (.v 3) (.v 2))],
    [], [.v 7]⟩
theorem chk_isZero : checkFn Try.prog [] su_isZero 400 Try.f25 (fun _ => t_isZero0) = true := by kernel_rfl
theorem ok_isZero : SummOK Try.prog 25 su_isZero (Phi 25) := by
  refine summ_fn (Φ := Phi) 400 (fun _ => t_isZero0) Try.func25 tbl_nil chk_isZero ?_
  intro al hal l hl ρ hk hs ha
  have hn : su_isZero.inKinds.length = 4 := rfl
  have hr : row ρ 4 = [ρ 0, ρ 1, ρ 2, ρ 3] := rfl
  rw [hn, hr] at hk ⊢
  simp only [su_isZero, Summ.inKinds, List.flatMap_cons, List.flatMap_nil, List.replicate, List.cons_append, List.nil_append, List.append_nil, holdsAll, K.holds] at hk
  obtain ⟨b0, b1, b2, b3, _⟩ := hk
  simp only [t_isZero0, CT.leaves, List.cons_append, List.nil_append, List.mem_cons, List.not_mem_nil, or_false] at hl
  subst hl
  simp only [satTr_cons, satTr_nil, sv_lss, sv_leq, sv_gtr, sv_geq, sv_eql, sv_neq, sv_not, sv_beq, sv_pick, sv_add, sv_sub, sv_fn, sv_eqs, E.den, List.map, K.holds] at hs
  simp only [asrOK_cons, asrOK_nil, if_true, if_false, Bool.false_eq_true, E.den] at ha
  obtain ⟨⟨h7, k7⟩, ⟨h6, k6⟩, ⟨h5, k5⟩, ⟨h4, k4⟩, _⟩ := hs
  clear ha
  have z4 : ρ 4 = 0 ↔ ρ 3 = 0 ∧ ρ 2 = 0 := or_zero b3 b2 h4
  have z5 : ρ 5 = 0 ↔ ρ 4 = 0 ∧ ρ 1 = 0 := or_zero k4 b1 h5
  have z6 : ρ 6 = 0 ↔ ρ 5 = 0 ∧ ρ 0 = 0 := or_zero k5 b0 h6
  refine dec_one (p := val [ρ 0, ρ 1, ρ 2, ρ 3] = 0) (z := ρ 7) ?_
  simp only [val, q, List.cons.injEq, and_true]
  clear h4 h5 h6
  omega

/-! ### neg -/
def su_neg : Summ := ⟨[.ptr 4, .ptr 4], (some 0), [.arg 0]⟩
def t_neg0 : CT := .node (.v 8)
  (.leaf ⟨[(12, .i .u64, .fn 38 [.v 0, .v 1, .v 2, .v 3] 3),
    (11, .i .u64, .fn 38 [.v 0, .v 1, .v 2, .v 3] 2),
    (10, .i .u64, .fn 38 [.v 0, .v 1, .v 2, .v 3] 1),
    (9, .i .u64, .fn 38 [.v 0, .v 1, .v 2, .v 3] 0),
    (8, .bool, .fn 25 [.v 4, .v 5, .v 6, .v 7] 0)],
    [(.v 8, true)], [.v 9, .v 10, .v 11, .v 12]⟩)
  (.leaf ⟨[(16, .bit, .fn 39 [.c 8353516859464449352, .v 7, .v 14] 1),
    (15, .i .u64, .fn 39 [.c 8353516859464449352, .v 7, .v 14] 0),
    (14, .bit, .fn 39 [.c 3691218898639771653, .v 6, .v 12] 1),
    (13, .i .u64, .fn 39 [.c 3691218898639771653, .v 6, .v 12] 0),
    (12, .bit, .fn 39 [.c 6034159408538082302, .v 5, .v 10] 1),
    (11, .i .u64, .fn 39 [.c 6034159408538082302, .v 5, .v 10] 0),
    (10, .bit, .fn 39 [.c 18446744069414584321, .v 4, .c 0] 1),
    (9, .i .u64, .fn 39 [.c 18446744069414584321, .v 4, .c 0] 0),
    (8, .bool, .fn 25 [.v 4, .v 5, .v 6, .v 7] 0)],
    [(.v 8, false)], [.v 9, .v 11, .v 13, .v 15]⟩)
def t_neg1 : CT := .node (.v 8)
  (.leaf ⟨[(12, .i .u64, .fn 38 [.v 4, .v 5, .v 6, .v 7] 3),
    (11, .i .u64, .fn 38 [.v 4, .v 5, .v 6, .v 7] 2),
    (10, .i .u64, .fn 38 [.v 4, .v 5, .v 6, .v 7] 1),
    (9, .i .u64, .fn 38 [.v 4, .v 5, .v 6, .v 7] 0),
    (8, .bool, .fn 25 [.v 4, .v 5, .v 6, .v 7] 0)],
    [(.v 8, true)], [.v 9, .v 10, .v 11, .v 12]⟩)
  (.leaf ⟨[(16, .bit, .fn 39 [.c 8353516859464449352, .v 7, .v 14] 1),
    (15, .i .u64, .fn 39 [.c 8353516859464449352, .v 7, .v 14] 0),
    (14, .bit, .fn 39 [.c 3691218898639771653, .v 6, .v 12] 1),
    (13, .i .u64, .fn 39 [.c 3691218898639771653, .v 6, .v 12] 0),
    (12, .bit, .fn 39 [.c 6034159408538082302, .v 5, .v 10] 1),
    (11, .i .u64, .fn 39 [.c 6034159408538082302, .v 5, .v 10] 0),
    (10, .bit, .fn 39 [.c 18446744069414584321, .v 4, .c 0] 1),
    (9, .i .u64, .fn 39 [.c 18446744069414584321, .v 4, .c 0] 0),
    (8, .bool, .fn 25 [.v 4, .v 5, .v 6, .v 7] 0)],
    [(.v 8, false)], [.v 9, .v 11, .v 13, .v 15]⟩)
theorem chk_neg : checkFn Try.prog [(39, addSub), (25, su_isZero), (38, su_zero)] su_neg 400 Try.f28 (fun al => match al with | none => t_neg0 | some _ => t_neg1) = true := by kernel_rfl
theorem ok_neg : SummOK Try.prog 28 su_neg (Phi 28) := by
  refine summ_fn (Φ := Phi) 400 (fun al => match al with | none => t_neg0 | some _ => t_neg1) Try.func28 (tbl_cons ok_sub64 (tbl_cons ok_isZero (tbl_cons ok_zero tbl_nil))) chk_neg ?_
  intro al hal l hl ρ hk hs ha
  have hn : su_neg.inKinds.length = 8 := rfl
  have hr : row ρ 8 = [ρ 0, ρ 1, ρ 2, ρ 3, ρ 4, ρ 5, ρ 6, ρ 7] := rfl
  rw [hn, hr] at hk ⊢
  simp only [su_neg, Summ.inKinds, List.flatMap_cons, List.flatMap_nil, List.replicate, List.cons_append, List.nil_append, List.append_nil, holdsAll, K.holds] at hk
  obtain ⟨b0, b1, b2, b3, b4, b5, b6, b7, _⟩ := hk
  cases al with
  | none =>
    simp only [t_neg0, CT.leaves, List.cons_append, List.nil_append, List.mem_cons, List.not_mem_nil, or_false] at hl
    rcases hl with rfl | rfl
    · simp only [satTr_cons, satTr_nil, sv_lss, sv_leq, sv_gtr, sv_geq, sv_eql, sv_neq, sv_not, sv_beq, sv_pick, sv_add, sv_sub, sv_fn, sv_eqs, E.den, List.map, K.holds] at hs
      simp only [asrOK_cons, asrOK_nil, if_true, if_false, Bool.false_eq_true, E.den] at ha
      obtain ⟨⟨h12, k12⟩, ⟨h11, k11⟩, ⟨h10, k10⟩, ⟨h9, k9⟩, ⟨h8, k8⟩, _⟩ := hs
      obtain ⟨a0, _⟩ := ha
      have e8 : ρ 8 = b2i (decide (val [ρ 4, ρ 5, ρ 6, ρ 7] = 0)) := h8
      rw [st_dec] at e8
      have g9 : [ρ 9, ρ 10, ρ 11, ρ 12] = wds 4 0 := get4 rfl h9 h10 h11 h12
      change wds 4 (eNeg q (val [ρ 4, ρ 5, ρ 6, ρ 7])) = [ρ 9, ρ 10, ρ 11, ρ 12]
      have hz : val [ρ 4, ρ 5, ρ 6, ρ 7] = 0 := by omega
      rw [g9, eNeg, if_pos hz]
    · simp only [satTr_cons, satTr_nil, sv_lss, sv_leq, sv_gtr, sv_geq, sv_eql, sv_neq, sv_not, sv_beq, sv_pick, sv_add, sv_sub, sv_fn, sv_eqs, E.den, List.map, K.holds] at hs
      simp only [asrOK_cons, asrOK_nil, if_true, if_false, Bool.false_eq_true, E.den] at ha
      obtain ⟨⟨h16, k16⟩, ⟨h15, k15⟩, ⟨h14, k14⟩, ⟨h13, k13⟩, ⟨h12, k12⟩, ⟨h11, k11⟩, ⟨h10, k10⟩, ⟨h9, k9⟩, ⟨h8, k8⟩, _⟩ := hs
      obtain ⟨a0, _⟩ := ha
      have e8 : ρ 8 = b2i (decide (val [ρ 4, ρ 5, ρ 6, ρ 7] = 0)) := h8
      rw [st_dec] at e8
      have r9 : ρ 9 - 18446744073709551616 * ρ 10 = 18446744069414584321 - ρ 4 - 0 := sbb (by decide) b4 (by decide) h9 h10
      have r11 : ρ 11 - 18446744073709551616 * ρ 12 = 6034159408538082302 - ρ 5 - ρ 10 := sbb (by decide) b5 k10 h11 h12
      have r13 : ρ 13 - 18446744073709551616 * ρ 14 = 3691218898639771653 - ρ 6 - ρ 12 := sbb (by decide) b6 k12 h13 h14
      have r15 : ρ 15 - 18446744073709551616 * ρ 16 = 8353516859464449352 - ρ 7 - ρ 14 := sbb (by decide) b7 k14 h15 h16
      change wds 4 (eNeg q (val [ρ 4, ρ 5, ρ 6, ρ 7])) = [ρ 9, ρ 11, ρ 13, ρ 15]
      have hz : ¬ val [ρ 4, ρ 5, ρ 6, ρ 7] = 0 := by omega
      rw [eNeg, if_neg hz]
      clear e8
      refine wds_eq (u64s_cons k9 (u64s_cons k11 (u64s_cons k13 (u64s_cons k15 u64s_nil)))) rfl (ρ 16) ?_
      simp only [val, big, q]
      omega
  | some j =>
    simp only [t_neg1, CT.leaves, List.cons_append, List.nil_append, List.mem_cons, List.not_mem_nil, or_false] at hl
    rcases hl with rfl | rfl
    · simp only [satTr_cons, satTr_nil, sv_lss, sv_leq, sv_gtr, sv_geq, sv_eql, sv_neq, sv_not, sv_beq, sv_pick, sv_add, sv_sub, sv_fn, sv_eqs, E.den, List.map, K.holds] at hs
      simp only [asrOK_cons, asrOK_nil, if_true, if_false, Bool.false_eq_true, E.den] at ha
      obtain ⟨⟨h12, k12⟩, ⟨h11, k11⟩, ⟨h10, k10⟩, ⟨h9, k9⟩, ⟨h8, k8⟩, _⟩ := hs
      obtain ⟨a0, _⟩ := ha
      have e8 : ρ 8 = b2i (decide (val [ρ 4, ρ 5, ρ 6, ρ 7] = 0)) := h8
      rw [st_dec] at e8
      have g9 : [ρ 9, ρ 10, ρ 11, ρ 12] = wds 4 0 := get4 rfl h9 h10 h11 h12
      change wds 4 (eNeg q (val [ρ 4, ρ 5, ρ 6, ρ 7])) = [ρ 9, ρ 10, ρ 11, ρ 12]
      have hz : val [ρ 4, ρ 5, ρ 6, ρ 7] = 0 := by omega
      rw [g9, eNeg, if_pos hz]
    · simp only [satTr_cons, satTr_nil, sv_lss, sv_leq, sv_gtr, sv_geq, sv_eql, sv_neq, sv_not, sv_beq, sv_pick, sv_add, sv_sub, sv_fn, sv_eqs, E.den, List.map, K.holds] at hs
      simp only [asrOK_cons, asrOK_nil, if_true, if_false, Bool.false_eq_true, E.den] at ha
      obtain ⟨⟨h16, k16⟩, ⟨h15, k15⟩, ⟨h14, k14⟩, ⟨h13, k13⟩, ⟨h12, k12⟩, ⟨h11, k11⟩, ⟨h10, k10⟩, ⟨h9, k9⟩, ⟨h8, k8⟩, _⟩ := hs
      obtain ⟨a0, _⟩ := ha
      have e8 : ρ 8 = b2i (decide (val [ρ 4, ρ 5, ρ 6, ρ 7] = 0)) := h8
      rw [st_dec] at e8
      have r9 : ρ 9 - 18446744073709551616 * ρ 10 = 18446744069414584321 - ρ 4 - 0 := sbb (by decide) b4 (by decide) h9 h10
      have r11 : ρ 11 - 18446744073709551616 * ρ 12 = 6034159408538082302 - ρ 5 - ρ 10 := sbb (by decide) b5 k10 h11 h12
      have r13 : ρ 13 - 18446744073709551616 * ρ 14 = 3691218898639771653 - ρ 6 - ρ 12 := sbb (by decide) b6 k12 h13 h14
      have r15 : ρ 15 - 18446744073709551616 * ρ 16 = 8353516859464449352 - ρ 7 - ρ 14 := sbb (by decide) b7 k14 h15 h16
      change wds 4 (eNeg q (val [ρ 4, ρ 5, ρ 6, ρ 7])) = [ρ 9, ρ 11, ρ 13, ρ 15]
      have hz : ¬ val [ρ 4, ρ 5, ρ 6, ρ 7] = 0 := by omega
      rw [eNeg, if_neg hz]
      clear e8
      refine wds_eq (u64s_cons k9 (u64s_cons k11 (u64s_cons k13 (u64s_cons k15 u64s_nil)))) rfl (ρ 16) ?_
      simp only [val, big, q]
      omega

/-! ### iNeg -/
def su_iNeg : Summ := ⟨[.agg 4], none, [.agg 4]⟩
def t_iNeg0 : CT := .leaf ⟨[(7, .i .u64, .fn 28 [.c 0, .c 0, .c 0, .c 0, .v 0, .v 1, .v 2, .v 3] 3),
    (6, .i .u64, .fn 28 [.c 0, .c 0, .c 0, .c 0, .v 0, .v 1, .v 2, .v 3] 2),
    (5, .i .u64, .fn 28 [.c 0, .c 0, .c 0, .c 0, .v 0, .v 1, .v 2, .v 3] 1),
    (4, .i .u64, .fn 28 [.c 0, .c 0, .c 0, .c 0, .v 0, .v 1, .v 2, .v 3] 0)],
    [], [.v 4, .v 5, .v 6, .v 7]⟩
theorem chk_iNeg : checkFn Try.prog [(28, su_neg)] su_iNeg 400 Try.f16 (fun _ => t_iNeg0) = true := by kernel_rfl
theorem ok_iNeg : SummOK Try.prog 16 su_iNeg (Phi 16) := by
  refine summ_fn (Φ := Phi) 400 (fun _ => t_iNeg0) Try.func16 (tbl_cons ok_neg tbl_nil) chk_iNeg ?_
  intro al hal l hl ρ hk hs ha
  have hn : su_iNeg.inKinds.length = 4 := rfl
  have hr : row ρ 4 = [ρ 0, ρ 1, ρ 2, ρ 3] := rfl
  rw [hn, hr] at hk ⊢
  simp only [su_iNeg, Summ.inKinds, List.flatMap_cons, List.flatMap_nil, List.replicate, List.cons_append, List.nil_append, List.append_nil, holdsAll, K.holds] at hk
  obtain ⟨b0, b1, b2, b3, _⟩ := hk
  simp only [t_iNeg0, CT.leaves, List.cons_append, List.nil_append, List.mem_cons, List.not_mem_nil, or_false] at hl
  subst hl
  simp only [satTr_cons, satTr_nil, sv_lss, sv_leq, sv_gtr, sv_geq, sv_eql, sv_neq, sv_not, sv_beq, sv_pick, sv_add, sv_sub, sv_fn, sv_eqs, E.den, List.map, K.holds] at hs
  simp only [asrOK_cons, asrOK_nil, if_true, if_false, Bool.false_eq_true, E.den] at ha
  obtain ⟨⟨h7, k7⟩, ⟨h6, k6⟩, ⟨h5, k5⟩, ⟨h4, k4⟩, _⟩ := hs
  clear ha
  have g4 : [ρ 4, ρ 5, ρ 6, ρ 7] = wds 4 (eNeg q (val [ρ 0, ρ 1, ρ 2, ρ 3])) := get4 rfl h4 h5 h6 h7
  exact g4.symm

/-! ### lNeg -/
def su_lNeg : Summ := ⟨[.agg 4], none, [.sc .bool]⟩
def t_lNeg0 : CT := .node (.v 9)
  (.leaf ⟨[(9, .bool, .not (.v 8)),
    (8, .bool, .fn 9 [.v 0, .v 1, .v 2, .v 3, .v 4, .v 5, .v 6, .v 7] 0),
    (7, .i .u64, .fn 10 [] 3),
    (6, .i .u64, .fn 10 [] 2),
    (5, .i .u64, .fn 10 [] 1),
    (4, .i .u64, .fn 10 [] 0)],
    [(.v 9, true)], [.c 1]⟩)
  (.leaf ⟨[(22, .bool, .fn 13 [.v 10, .v 11, .v 12, .v 13, .v 18, .v 19, .v 20, .v 21] 0),
    (21, .i .u64, .fn 17 [.c 0, .c 0, .c 0, .c 0, .v 0, .v 1, .v 2, .v 3, .v 14, .v 15, .v 16, .v 17] 3),
    (20, .i .u64, .fn 17 [.c 0, .c 0, .c 0, .c 0, .v 0, .v 1, .v 2, .v 3, .v 14, .v 15, .v 16, .v 17] 2),
    (19, .i .u64, .fn 17 [.c 0, .c 0, .c 0, .c 0, .v 0, .v 1, .v 2, .v 3, .v 14, .v 15, .v 16, .v 17] 1),
    (18, .i .u64, .fn 17 [.c 0, .c 0, .c 0, .c 0, .v 0, .v 1, .v 2, .v 3, .v 14, .v 15, .v 16, .v 17] 0),
    (17, .i .u64, .fn 10 [] 3),
    (16, .i .u64, .fn 10 [] 2),
    (15, .i .u64, .fn 10 [] 1),
    (14, .i .u64, .fn 10 [] 0),
    (13, .i .u64, .fn 16 [.v 0, .v 1, .v 2, .v 3] 3),
    (12, .i .u64, .fn 16 [.v 0, .v 1, .v 2, .v 3] 2),
    (11, .i .u64, .fn 16 [.v 0, .v 1, .v 2, .v 3] 1),
    (10, .i .u64, .fn 16 [.v 0, .v 1, .v 2, .v 3] 0),
    (9, .bool, .not (.v 8)),
    (8, .bool, .fn 9 [.v 0, .v 1, .v 2, .v 3, .v 4, .v 5, .v 6, .v 7] 0),
    (7, .i .u64, .fn 10 [] 3),
    (6, .i .u64, .fn 10 [] 2),
    (5, .i .u64, .fn 10 [] 1),
    (4, .i .u64, .fn 10 [] 0)],
    [(.v 9, false)], [.v 22]⟩)
theorem chk_lNeg : checkFn Try.prog [(9, su_less), (10, su_prime), (16, su_iNeg), (17, su_subW), (13, su_same)] su_lNeg 400 Try.f4 (fun _ => t_lNeg0) = true := by kernel_rfl
theorem ok_lNeg : SummOK Try.prog 4 su_lNeg (Phi 4) := by
  refine summ_fn (Φ := Phi) 400 (fun _ => t_lNeg0) Try.func4 (tbl_cons ok_less (tbl_cons ok_prime (tbl_cons ok_iNeg (tbl_cons ok_subW (tbl_cons ok_same tbl_nil))))) chk_lNeg ?_
  intro al hal l hl ρ hk hs ha
  have hn : su_lNeg.inKinds.length = 4 := rfl
  have hr : row ρ 4 = [ρ 0, ρ 1, ρ 2, ρ 3] := rfl
  rw [hn, hr] at hk ⊢
  simp only [su_lNeg, Summ.inKinds, List.flatMap_cons, List.flatMap_nil, List.replicate, List.cons_append, List.nil_append, List.append_nil, holdsAll, K.holds] at hk
  obtain ⟨b0, b1, b2, b3, _⟩ := hk
  simp only [t_lNeg0, CT.leaves, List.cons_append, List.nil_append, List.mem_cons, List.not_mem_nil, or_false] at hl
  rcases hl with rfl | rfl
  · simp only [satTr_cons, satTr_nil, sv_lss, sv_leq, sv_gtr, sv_geq, sv_eql, sv_neq, sv_not, sv_beq, sv_pick, sv_add, sv_sub, sv_fn, sv_eqs, E.den, List.map, K.holds] at hs
    simp only [asrOK_cons, asrOK_nil, if_true, if_false, Bool.false_eq_true, E.den] at ha
    obtain ⟨⟨h9, k9⟩, ⟨h8, k8⟩, ⟨h7, k7⟩, ⟨h6, k6⟩, ⟨h5, k5⟩, ⟨h4, k4⟩, _⟩ := hs
    obtain ⟨a0, _⟩ := ha
    have g4 : [ρ 4, ρ 5, ρ 6, ρ 7] = wds 4 q := get4 rfl h4 h5 h6 h7
    have e8 : ρ 8 = b2i (decide (val [ρ 0, ρ 1, ρ 2, ρ 3] < val [ρ 4, ρ 5, ρ 6, ρ 7])) := h8
    rw [st_dec] at e8
    rfl
  · simp only [satTr_cons, satTr_nil, sv_lss, sv_leq, sv_gtr, sv_geq, sv_eql, sv_neq, sv_not, sv_beq, sv_pick, sv_add, sv_sub, sv_fn, sv_eqs, E.den, List.map, K.holds] at hs
    simp only [asrOK_cons, asrOK_nil, if_true, if_false, Bool.false_eq_true, E.den] at ha
    obtain ⟨⟨h22, k22⟩, ⟨h21, k21⟩, ⟨h20, k20⟩, ⟨h19, k19⟩, ⟨h18, k18⟩, ⟨h17, k17⟩, ⟨h16, k16⟩, ⟨h15, k15⟩, ⟨h14, k14⟩, ⟨h13, k13⟩, ⟨h12, k12⟩, ⟨h11, k11⟩, ⟨h10, k10⟩, ⟨h9, k9⟩, ⟨h8, k8⟩, ⟨h7, k7⟩, ⟨h6, k6⟩, ⟨h5, k5⟩, ⟨h4, k4⟩, _⟩ := hs
    obtain ⟨a0, _⟩ := ha
    have g4 : [ρ 4, ρ 5, ρ 6, ρ 7] = wds 4 q := get4 rfl h4 h5 h6 h7
    have e8 : ρ 8 = b2i (decide (val [ρ 0, ρ 1, ρ 2, ρ 3] < val [ρ 4, ρ 5, ρ 6, ρ 7])) := h8
    rw [st_dec] at e8
    have g10 : [ρ 10, ρ 11, ρ 12, ρ 13] = wds 4 (eNeg q (val [ρ 0, ρ 1, ρ 2, ρ 3])) := get4 rfl h10 h11 h12 h13
    have g14 : [ρ 14, ρ 15, ρ 16, ρ 17] = wds 4 q := get4 rfl h14 h15 h16 h17
    have g18 : [ρ 18, ρ 19, ρ 20, ρ 21] = wds 4 (subM (val [0, 0, 0, 0]) (val [ρ 0, ρ 1, ρ 2, ρ 3]) (val [ρ 14, ρ 15, ρ 16, ρ 17])) := get4 rfl h18 h19 h20 h21
    have e22 : ρ 22 = b2i (decide ([ρ 10, ρ 11, ρ 12, ρ 13] = [ρ 18, ρ 19, ρ 20, ρ 21])) := h22
    rw [st_dec] at e22
    have hp : val (wds 4 q) = q := by kernel_rfl
    rw [g4, hp] at e8
    have hlt : val [ρ 0, ρ 1, ρ 2, ρ 3] < q := by omega
    have hx := (val_nonneg (ws := [ρ 0, ρ 1, ρ 2, ρ 3]) (u64s_cons b0 (u64s_cons b1 (u64s_cons b2 (u64s_cons b3 u64s_nil))))).1
    have hs : [ρ 10, ρ 11, ρ 12, ρ 13] = [ρ 18, ρ 19, ρ 20, ρ 21] := by
      rw [g10, g18, g14, hp]
      congr 1
      have h0 : val [0, 0, 0, 0] = 0 := by kernel_rfl
      rw [h0, eNeg, subM]
      split <;> split <;> omega
    simp only [hs, true_and, not_true_eq_false, false_and, or_false] at e22
    change [1] = [ρ 22]
    rw [e22]

end Go.Proofs.Ytopoffodlfnejaa
