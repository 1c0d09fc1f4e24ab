/- The functions of the seat Ytebocdegfofhdaa, each once: its ways through the text, and what it comes to in numbers. Written by a program (gen.py). -/
import Derived.Test.YtebocdegfofhdaaSymU
import Derived.Test.YtebocdegfofhdaaSymZ
import Derived.Test.YtebocdegfofhdaaRows
set_option linter.unusedVariables false
set_option linter.unusedSimpArgs false
set_option maxRecDepth 4000
namespace Go.Proofs.Ytebocdegfofhdaa
open Go.Sym

def q : Int := 21888242871839275222246405745257275088548364400416034343698204186575808495617
def r : Int := 6350874878119819312338956282401532410528162663560392320966563075034087161851

def Phi : Nat → List Int → List Int
  | 9 => lessF 4
  | 13 => sameF 4
  | 10 => primeF 4 q
  | 30 => plusF 4
  | 29 => lessenF 4
  | 27 => addWF 4
  | 17 => subWF 4
  | 15 => setF 4 1
  | 21 => timesF 4
  | 38 => setF 4 0
  | 44 => setF 4 r
  | 25 => zeroF
  | 26 => isF 4 r
  | 41 => smallF q
  | 31 => eaddF 4 q
  | 32 => esubF 4 q
  | 42 => edblF 4 q
  | 28 => enegF 4 q
  | 37 => setF 4 r
  | 33 => mul5F 4 q
  | 24 => setF 4 r
  | 11 => zeroF
  | 12 => isF 4 r
  | 18 => aaddF 4 q
  | 19 => asubF 4 q
  | 16 => anegF 4 q
  | 20 => mul5F 4 q
  | 4 => fun _ => [1]
  | 5 => fun _ => [1]
  | 6 => fun _ => [1]
  | 8 => fun _ => [1]
  | 3 => fun _ => [1]
  | 40 => add64F
  | 39 => sub64F
  | 14 => shiftF 4
  | _ => fun _ => []

theorem ok_add64 : SummOK Try.prog 40 addSub (Phi 40) := summ_add64 Try.func40 (by kernel_rfl) (by kernel_rfl) (by kernel_rfl) (by kernel_rfl)

theorem ok_sub64 : SummOK Try.prog 39 addSub (Phi 39) := summ_sub64 Try.func39 (by kernel_rfl) (by kernel_rfl) (by kernel_rfl) (by kernel_rfl)

/-! ### less -/
def su_less : Summ := ⟨[.slc 4, .slc 4], none, [.sc .bool]⟩
def t_less0 : CT := .node (.v 8)
  (.leaf ⟨[(9, .bool, .cmp .lss (.v 3) (.v 7)),
    (8, .bool, .cmp .neq (.v 3) (.v 7))],
    [(.v 8, true)], [.v 9]⟩)
  (.node (.v 9)
  (.leaf ⟨[(10, .bool, .cmp .lss (.v 2) (.v 6)),
    (9, .bool, .cmp .neq (.v 2) (.v 6)),
    (8, .bool, .cmp .neq (.v 3) (.v 7))],
    [(.v 9, true), (.v 8, false)], [.v 10]⟩)
  (.node (.v 10)
  (.leaf ⟨[(11, .bool, .cmp .lss (.v 1) (.v 5)),
    (10, .bool, .cmp .neq (.v 1) (.v 5)),
    (9, .bool, .cmp .neq (.v 2) (.v 6)),
    (8, .bool, .cmp .neq (.v 3) (.v 7))],
    [(.v 10, true), (.v 9, false), (.v 8, false)], [.v 11]⟩)
  (.node (.v 11)
  (.leaf ⟨[(12, .bool, .cmp .lss (.v 0) (.v 4)),
    (11, .bool, .cmp .neq (.v 0) (.v 4)),
    (10, .bool, .cmp .neq (.v 1) (.v 5)),
    (9, .bool, .cmp .neq (.v 2) (.v 6)),
    (8, .bool, .cmp .neq (.v 3) (.v 7))],
    [(.v 11, true), (.v 10, false), (.v 9, false), (.v 8, false)], [.v 12]⟩)
  (.leaf ⟨[(11, .bool, .cmp .neq (.v 0) (.v 4)),
    (10, .bool, .cmp .neq (.v 1) (.v 5)),
    (9, .bool, .cmp .neq (.v 2) (.v 6)),
    (8, .bool, .cmp .neq (.v 3) (.v 7))],
    [(.v 11, false), (.v 10, false), (.v 9, false), (.v 8, false)], [.c 0]⟩))))
theorem chk_less : checkFn Try.prog [] su_less 400 Try.f9 (fun _ => t_less0) = true := by kernel_rfl
theorem ok_less : SummOK Try.prog 9 su_less (Phi 9) := by
  refine summ_fn (Φ := Phi) 400 (fun _ => t_less0) Try.func9 tbl_nil chk_less ?_
  intro al hal l hl ρ hk hs ha
  have hn : su_less.inKinds.length = 8 := rfl
  have hr : row ρ 8 = [ρ 0, ρ 1, ρ 2, ρ 3, ρ 4, ρ 5, ρ 6, ρ 7] := rfl
  rw [hn, hr] at hk ⊢
  simp only [su_less, Summ.inKinds, List.flatMap_cons, List.flatMap_nil, List.replicate, List.cons_append, List.nil_append, List.append_nil, holdsAll, K.holds] at hk
  obtain ⟨b0, b1, b2, b3, b4, b5, b6, b7, _⟩ := hk
  simp only [t_less0, CT.leaves, List.cons_append, List.nil_append, List.mem_cons, List.not_mem_nil, or_false] at hl
  rcases hl with rfl | rfl | rfl | rfl | rfl
  · simp only [satTr_cons, satTr_nil, sv_lss, sv_leq, sv_gtr, sv_geq, sv_eql, sv_neq, sv_not, sv_beq, sv_pick, sv_add, sv_sub, sv_fn, sv_eqs, E.den, List.map, K.holds] at hs
    simp only [asrOK_cons, asrOK_nil, if_true, if_false, Bool.false_eq_true, E.den] at ha
    obtain ⟨⟨h9, k9⟩, ⟨h8, k8⟩, _⟩ := hs
    obtain ⟨a0, _⟩ := ha
    refine dec_one (p := val [ρ 0, ρ 1, ρ 2, ρ 3] < val [ρ 4, ρ 5, ρ 6, ρ 7]) (z := ρ 9) ?_
    simp only [val, q, List.cons.injEq, and_true]
    omega
  · simp only [satTr_cons, satTr_nil, sv_lss, sv_leq, sv_gtr, sv_geq, sv_eql, sv_neq, sv_not, sv_beq, sv_pick, sv_add, sv_sub, sv_fn, sv_eqs, E.den, List.map, K.holds] at hs
    simp only [asrOK_cons, asrOK_nil, if_true, if_false, Bool.false_eq_true, E.den] at ha
    obtain ⟨⟨h10, k10⟩, ⟨h9, k9⟩, ⟨h8, k8⟩, _⟩ := hs
    obtain ⟨a0, a1, _⟩ := ha
    refine dec_one (p := val [ρ 0, ρ 1, ρ 2, ρ 3] < val [ρ 4, ρ 5, ρ 6, ρ 7]) (z := ρ 10) ?_
    simp only [val, q, List.cons.injEq, and_true]
    omega
  · simp only [satTr_cons, satTr_nil, sv_lss, sv_leq, sv_gtr, sv_geq, sv_eql, sv_neq, sv_not, sv_beq, sv_pick, sv_add, sv_sub, sv_fn, sv_eqs, E.den, List.map, K.holds] at hs
    simp only [asrOK_cons, asrOK_nil, if_true, if_false, Bool.false_eq_true, E.den] at ha
    obtain ⟨⟨h11, k11⟩, ⟨h10, k10⟩, ⟨h9, k9⟩, ⟨h8, k8⟩, _⟩ := hs
    obtain ⟨a0, a1, a2, _⟩ := ha
    refine dec_one (p := val [ρ 0, ρ 1, ρ 2, ρ 3] < val [ρ 4, ρ 5, ρ 6, ρ 7]) (z := ρ 11) ?_
    simp only [val, q, List.cons.injEq, and_true]
    omega
  · simp only [satTr_cons, satTr_nil, sv_lss, sv_leq, sv_gtr, sv_geq, sv_eql, sv_neq, sv_not, sv_beq, sv_pick, sv_add, sv_sub, sv_fn, sv_eqs, E.den, List.map, K.holds] at hs
    simp only [asrOK_cons, asrOK_nil, if_true, if_false, Bool.false_eq_true, E.den] at ha
    obtain ⟨⟨h12, k12⟩, ⟨h11, k11⟩, ⟨h10, k10⟩, ⟨h9, k9⟩, ⟨h8, k8⟩, _⟩ := hs
    obtain ⟨a0, a1, a2, a3, _⟩ := ha
    refine dec_one (p := val [ρ 0, ρ 1, ρ 2, ρ 3] < val [ρ 4, ρ 5, ρ 6, ρ 7]) (z := ρ 12) ?_
    simp only [val, q, List.cons.injEq, and_true]
    omega
  · simp only [satTr_cons, satTr_nil, sv_lss, sv_leq, sv_gtr, sv_geq, sv_eql, sv_neq, sv_not, sv_beq, sv_pick, sv_add, sv_sub, sv_fn, sv_eqs, E.den, List.map, K.holds] at hs
    simp only [asrOK_cons, asrOK_nil, if_true, if_false, Bool.false_eq_true, E.den] at ha
    obtain ⟨⟨h11, k11⟩, ⟨h10, k10⟩, ⟨h9, k9⟩, ⟨h8, k8⟩, _⟩ := hs
    obtain ⟨a0, a1, a2, a3, _⟩ := ha
    refine dec_one (p := val [ρ 0, ρ 1, ρ 2, ρ 3] < val [ρ 4, ρ 5, ρ 6, ρ 7]) (z := 0) ?_
    simp only [val, q, List.cons.injEq, and_true]
    omega

/-! ### same -/
def su_same : Summ := ⟨[.slc 4, .slc 4], none, [.sc .bool]⟩
def t_same0 : CT := .node (.v 8)
  (.leaf ⟨[(8, .bool, .cmp .neq (.v 0) (.v 4))],
    [(.v 8, true)], [.c 0]⟩)
  (.node (.v 9)
  (.leaf ⟨[(9, .bool, .cmp .neq (.v 1) (.v 5)),
    (8, .bool, .cmp .neq (.v 0) (.v 4))],
    [(.v 9, true), (.v 8, false)], [.c 0]⟩)
  (.node (.v 10)
  (.leaf ⟨[(10, .bool, .cmp .neq (.v 2) (.v 6)),
    (9, .bool, .cmp .neq (.v 1) (.v 5)),
    (8, .bool, .cmp .neq (.v 0) (.v 4))],
    [(.v 10, true), (.v 9, false), (.v 8, false)], [.c 0]⟩)
  (.node (.v 11)
  (.leaf ⟨[(11, .bool, .cmp .neq (.v 3) (.v 7)),
    (10, .bool, .cmp .neq (.v 2) (.v 6)),
    (9, .bool, .cmp .neq (.v 1) (.v 5)),
    (8, .bool, .cmp .neq (.v 0) (.v 4))],
    [(.v 11, true), (.v 10, false), (.v 9, false), (.v 8, false)], [.c 0]⟩)
  (.leaf ⟨[(11, .bool, .cmp .neq (.v 3) (.v 7)),
    (10, .bool, .cmp .neq (.v 2) (.v 6)),
    (9, .bool, .cmp .neq (.v 1) (.v 5)),
    (8, .bool, .cmp .neq (.v 0) (.v 4))],
    [(.v 11, false), (.v 10, false), (.v 9, false), (.v 8, false)], [.c 1]⟩))))
theorem chk_same : checkFn Try.prog [] su_same 400 Try.f13 (fun _ => t_same0) = true := by kernel_rfl
theorem ok_same : SummOK Try.prog 13 su_same (Phi 13) := by
  refine summ_fn (Φ := Phi) 400 (fun _ => t_same0) Try.func13 tbl_nil chk_same ?_
  intro al hal l hl ρ hk hs ha
  have hn : su_same.inKinds.length = 8 := rfl
  have hr : row ρ 8 = [ρ 0, ρ 1, ρ 2, ρ 3, ρ 4, ρ 5, ρ 6, ρ 7] := rfl
  rw [hn, hr] at hk ⊢
  simp only [su_same, Summ.inKinds, List.flatMap_cons, List.flatMap_nil, List.replicate, List.cons_append, List.nil_append, List.append_nil, holdsAll, K.holds] at hk
  obtain ⟨b0, b1, b2, b3, b4, b5, b6, b7, _⟩ := hk
  simp only [t_same0, CT.leaves, List.cons_append, List.nil_append, List.mem_cons, List.not_mem_nil, or_false] at hl
  rcases hl with rfl | rfl | rfl | rfl | rfl
  · simp only [satTr_cons, satTr_nil, sv_lss, sv_leq, sv_gtr, sv_geq, sv_eql, sv_neq, sv_not, sv_beq, sv_pick, sv_add, sv_sub, sv_fn, sv_eqs, E.den, List.map, K.holds] at hs
    simp only [asrOK_cons, asrOK_nil, if_true, if_false, Bool.false_eq_true, E.den] at ha
    obtain ⟨⟨h8, k8⟩, _⟩ := hs
    obtain ⟨a0, _⟩ := ha
    refine dec_one (p := [ρ 0, ρ 1, ρ 2, ρ 3] = [ρ 4, ρ 5, ρ 6, ρ 7]) (z := 0) ?_
    simp only [val, q, List.cons.injEq, and_true]
    omega
  · simp only [satTr_cons, satTr_nil, sv_lss, sv_leq, sv_gtr, sv_geq, sv_eql, sv_neq, sv_not, sv_beq, sv_pick, sv_add, sv_sub, sv_fn, sv_eqs, E.den, List.map, K.holds] at hs
    simp only [asrOK_cons, asrOK_nil, if_true, if_false, Bool.false_eq_true, E.den] at ha
    obtain ⟨⟨h9, k9⟩, ⟨h8, k8⟩, _⟩ := hs
    obtain ⟨a0, a1, _⟩ := ha
    refine dec_one (p := [ρ 0, ρ 1, ρ 2, ρ 3] = [ρ 4, ρ 5, ρ 6, ρ 7]) (z := 0) ?_
    simp only [val, q, List.cons.injEq, and_true]
    omega
  · simp only [satTr_cons, satTr_nil, sv_lss, sv_leq, sv_gtr, sv_geq, sv_eql, sv_neq, sv_not, sv_beq, sv_pick, sv_add, sv_sub, sv_fn, sv_eqs, E.den, List.map, K.holds] at hs
    simp only [asrOK_cons, asrOK_nil, if_true, if_false, Bool.false_eq_true, E.den] at ha
    obtain ⟨⟨h10, k10⟩, ⟨h9, k9⟩, ⟨h8, k8⟩, _⟩ := hs
    obtain ⟨a0, a1, a2, _⟩ := ha
    refine dec_one (p := [ρ 0, ρ 1, ρ 2, ρ 3] = [ρ 4, ρ 5, ρ 6, ρ 7]) (z := 0) ?_
    simp only [val, q, List.cons.injEq, and_true]
    omega
  · simp only [satTr_cons, satTr_nil, sv_lss, sv_leq, sv_gtr, sv_geq, sv_eql, sv_neq, sv_not, sv_beq, sv_pick, sv_add, sv_sub, sv_fn, sv_eqs, E.den, List.map, K.holds] at hs
    simp only [asrOK_cons, asrOK_nil, if_true, if_false, Bool.false_eq_true, E.den] at ha
    obtain ⟨⟨h11, k11⟩, ⟨h10, k10⟩, ⟨h9, k9⟩, ⟨h8, k8⟩, _⟩ := hs
    obtain ⟨a0, a1, a2, a3, _⟩ := ha
    refine dec_one (p := [ρ 0, ρ 1, ρ 2, ρ 3] = [ρ 4, ρ 5, ρ 6, ρ 7]) (z := 0) ?_
    simp only [val, q, List.cons.injEq, and_true]
    omega
  · simp only [satTr_cons, satTr_nil, sv_lss, sv_leq, sv_gtr, sv_geq, sv_eql, sv_neq, sv_not, sv_beq, sv_pick, sv_add, sv_sub, sv_fn, sv_eqs, E.den, List.map, K.holds] at hs
    simp only [asrOK_cons, asrOK_nil, if_true, if_false, Bool.false_eq_true, E.den] at ha
    obtain ⟨⟨h11, k11⟩, ⟨h10, k10⟩, ⟨h9, k9⟩, ⟨h8, k8⟩, _⟩ := hs
    obtain ⟨a0, a1, a2, a3, _⟩ := ha
    refine dec_one (p := [ρ 0, ρ 1, ρ 2, ρ 3] = [ρ 4, ρ 5, ρ 6, ρ 7]) (z := 1) ?_
    simp only [val, q, List.cons.injEq, and_true]
    omega

/-! ### prime -/
def su_prime : Summ := ⟨[], none, [.slc 4]⟩
def t_prime0 : CT := .leaf ⟨[],
    [], [.c 4891460686036598785, .c 2896914383306846353, .c 13281191951274694749, .c 3486998266802970665]⟩
theorem chk_prime : checkFn Try.prog [] su_prime 400 Try.f10 (fun _ => t_prime0) = true := by kernel_rfl
theorem ok_prime : SummOK Try.prog 10 su_prime (Phi 10) := by
  refine summ_fn (Φ := Phi) 400 (fun _ => t_prime0) Try.func10 tbl_nil chk_prime ?_
  intro al hal l hl ρ hk hs ha
  have hn : su_prime.inKinds.length = 0 := rfl
  have hr : row ρ 0 = [] := rfl
  rw [hn, hr] at hk ⊢
  simp only [su_prime, Summ.inKinds, List.flatMap_cons, List.flatMap_nil, List.replicate, List.cons_append, List.nil_append, List.append_nil, holdsAll, K.holds] at hk
  simp only [t_prime0, CT.leaves, List.cons_append, List.nil_append, List.mem_cons, List.not_mem_nil, or_false] at hl
  subst hl
  simp only [satTr_cons, satTr_nil, sv_lss, sv_leq, sv_gtr, sv_geq, sv_eql, sv_neq, sv_not, sv_beq, sv_pick, sv_add, sv_sub, sv_fn, sv_eqs, E.den, List.map, K.holds] at hs
  simp only [asrOK_cons, asrOK_nil, if_true, if_false, Bool.false_eq_true, E.den] at ha
  clear hs
  clear ha
  change wds 4 q = [4891460686036598785, 2896914383306846353, 13281191951274694749, 3486998266802970665]
  kernel_rfl

/-! ### plus -/
def su_plus : Summ := ⟨[.slc 4, .slc 4], none, [.slc 4, .sc .bool]⟩
def t_plus0 : CT := .leaf ⟨[(32, .bool, .cmp .eql (.v 31) (.c 1)),
    (31, .i .u64, .pick (.v 30) (.c 1) (.c 0)),
    (30, .bool, .pick (.v 27) (.c 1) (.v 29)),
    (29, .bool, .cmp .lss (.v 28) (.v 26)),
    (28, .i .u64, .bin .add .u64 (.v 26) (.v 7)),
    (27, .bool, .cmp .lss (.v 26) (.v 25)),
    (26, .i .u64, .bin .add .u64 (.v 3) (.v 25)),
    (25, .i .u64, .pick (.v 24) (.c 1) (.c 0)),
    (24, .bool, .pick (.v 21) (.c 1) (.v 23)),
    (23, .bool, .cmp .lss (.v 22) (.v 20)),
    (22, .i .u64, .bin .add .u64 (.v 20) (.v 6)),
    (21, .bool, .cmp .lss (.v 20) (.v 19)),
    (20, .i .u64, .bin .add .u64 (.v 2) (.v 19)),
    (19, .i .u64, .pick (.v 18) (.c 1) (.c 0)),
    (18, .bool, .pick (.v 15) (.c 1) (.v 17)),
    (17, .bool, .cmp .lss (.v 16) (.v 14)),
    (16, .i .u64, .bin .add .u64 (.v 14) (.v 5)),
    (15, .bool, .cmp .lss (.v 14) (.v 13)),
    (14, .i .u64, .bin .add .u64 (.v 1) (.v 13)),
    (13, .i .u64, .pick (.v 12) (.c 1) (.c 0)),
    (12, .bool, .pick (.v 9) (.c 1) (.v 11)),
    (11, .bool, .cmp .lss (.v 10) (.v 8)),
    (10, .i .u64, .bin .add .u64 (.v 8) (.v 4)),
    (9, .bool, .cmp .lss (.v 8) (.c 0)),
    (8, .i .u64, .bin .add .u64 (.v 0) (.c 0))],
    [], [.v 10, .v 16, .v 22, .v 28, .v 32]⟩
theorem chk_plus : checkFn Try.prog [] su_plus 400 Try.f30 (fun _ => t_plus0) = true := by kernel_rfl
theorem ok_plus : SummOK Try.prog 30 su_plus (Phi 30) := by
  refine summ_fn (Φ := Phi) 400 (fun _ => t_plus0) Try.func30 tbl_nil chk_plus ?_
  intro al hal l hl ρ hk hs ha
  have hn : su_plus.inKinds.length = 8 := rfl
  have hr : row ρ 8 = [ρ 0, ρ 1, ρ 2, ρ 3, ρ 4, ρ 5, ρ 6, ρ 7] := rfl
  rw [hn, hr] at hk ⊢
  simp only [su_plus, Summ.inKinds, List.flatMap_cons, List.flatMap_nil, List.replicate, List.cons_append, List.nil_append, List.append_nil, holdsAll, K.holds] at hk
  obtain ⟨b0, b1, b2, b3, b4, b5, b6, b7, _⟩ := hk
  simp only [t_plus0, CT.leaves, List.cons_append, List.nil_append, List.mem_cons, List.not_mem_nil, or_false] at hl
  subst hl
  simp only [satTr_cons, satTr_nil, sv_lss, sv_leq, sv_gtr, sv_geq, sv_eql, sv_neq, sv_not, sv_beq, sv_pick, sv_add, sv_sub, sv_fn, sv_eqs, E.den, List.map, K.holds] at hs
  simp only [asrOK_cons, asrOK_nil, if_true, if_false, Bool.false_eq_true, E.den] at ha
  obtain ⟨⟨h32, k32⟩, ⟨h31, k31⟩, ⟨h30, k30⟩, ⟨h29, k29⟩, ⟨h28, k28⟩, ⟨h27, k27⟩, ⟨h26, k26⟩, ⟨h25, k25⟩, ⟨h24, k24⟩, ⟨h23, k23⟩, ⟨h22, k22⟩, ⟨h21, k21⟩, ⟨h20, k20⟩, ⟨h19, k19⟩, ⟨h18, k18⟩, ⟨h17, k17⟩, ⟨h16, k16⟩, ⟨h15, k15⟩, ⟨h14, k14⟩, ⟨h13, k13⟩, ⟨h12, k12⟩, ⟨h11, k11⟩, ⟨h10, k10⟩, ⟨h9, k9⟩, ⟨h8, k8⟩, _⟩ := hs
  clear ha
  obtain ⟨r0, c0⟩ := plus_round b0 b4 (.inl rfl) h8 h9 h10 h11 h12 h13
  obtain ⟨r1, c1⟩ := plus_round b1 b5 c0 h14 h15 h16 h17 h18 h19
  obtain ⟨r2, c2⟩ := plus_round b2 b6 c1 h20 h21 h22 h23 h24 h25
  obtain ⟨r3, c3⟩ := plus_round b3 b7 c2 h26 h27 h28 h29 h30 h31
  clear h8 h9 h10 h11 h12 h13 h14 h15 h16 h17 h18 h19 h20 h21 h22 h23 h24 h25 h26 h27 h28 h29 h30 h31
  refine plus_done (n := 4) (a := [ρ 0, ρ 1, ρ 2, ρ 3]) (b := [ρ 4, ρ 5, ρ 6, ρ 7]) (s := [ρ 10, ρ 16, ρ 22, ρ 28]) (c := ρ 31) (d := ρ 32) (u64s_cons k10 (u64s_cons k16 (u64s_cons k22 (u64s_cons k28 u64s_nil)))) rfl ?_ c3 h32
  simp only [val, big]
  omega

/-! ### lessen -/
def su_lessen : Summ := ⟨[.slc 4, .slc 4], none, [.slc 4, .sc .bool]⟩
def t_lessen0 : CT := .leaf ⟨[(32, .bool, .cmp .eql (.v 31) (.c 1)),
    (31, .i .u64, .pick (.v 30) (.c 1) (.c 0)),
    (30, .bool, .pick (.v 27) (.c 1) (.v 29)),
    (29, .bool, .cmp .lss (.v 26) (.v 7)),
    (28, .i .u64, .bin .sub .u64 (.v 26) (.v 7)),
    (27, .bool, .cmp .lss (.v 3) (.v 25)),
    (26, .i .u64, .bin .sub .u64 (.v 3) (.v 25)),
    (25, .i .u64, .pick (.v 24) (.c 1) (.c 0)),
    (24, .bool, .pick (.v 21) (.c 1) (.v 23)),
    (23, .bool, .cmp .lss (.v 20) (.v 6)),
    (22, .i .u64, .bin .sub .u64 (.v 20) (.v 6)),
    (21, .bool, .cmp .lss (.v 2) (.v 19)),
    (20, .i .u64, .bin .sub .u64 (.v 2) (.v 19)),
    (19, .i .u64, .pick (.v 18) (.c 1) (.c 0)),
    (18, .bool, .pick (.v 15) (.c 1) (.v 17)),
    (17, .bool, .cmp .lss (.v 14) (.v 5)),
    (16, .i .u64, .bin .sub .u64 (.v 14) (.v 5)),
    (15, .bool, .cmp .lss (.v 1) (.v 13)),
    (14, .i .u64, .bin .sub .u64 (.v 1) (.v 13)),
    (13, .i .u64, .pick (.v 12) (.c 1) (.c 0)),
    (12, .bool, .pick (.v 9) (.c 1) (.v 11)),
    (11, .bool, .cmp .lss (.v 8) (.v 4)),
    (10, .i .u64, .bin .sub .u64 (.v 8) (.v 4)),
    (9, .bool, .cmp .lss (.v 0) (.c 0)),
    (8, .i .u64, .bin .sub .u64 (.v 0) (.c 0))],
    [], [.v 10, .v 16, .v 22, .v 28, .v 32]⟩
theorem chk_lessen : checkFn Try.prog [] su_lessen 400 Try.f29 (fun _ => t_lessen0) = true := by kernel_rfl
theorem ok_lessen : SummOK Try.prog 29 su_lessen (Phi 29) := by
  refine summ_fn (Φ := Phi) 400 (fun _ => t_lessen0) Try.func29 tbl_nil chk_lessen ?_
  intro al hal l hl ρ hk hs ha
  have hn : su_lessen.inKinds.length = 8 := rfl
  have hr : row ρ 8 = [ρ 0, ρ 1, ρ 2, ρ 3, ρ 4, ρ 5, ρ 6, ρ 7] := rfl
  rw [hn, hr] at hk ⊢
  simp only [su_lessen, Summ.inKinds, List.flatMap_cons, List.flatMap_nil, List.replicate, List.cons_append, List.nil_append, List.append_nil, holdsAll, K.holds] at hk
  obtain ⟨b0, b1, b2, b3, b4, b5, b6, b7, _⟩ := hk
  simp only [t_lessen0, CT.leaves, List.cons_append, List.nil_append, List.mem_cons, List.not_mem_nil, or_false] at hl
  subst hl
  simp only [satTr_cons, satTr_nil, sv_lss, sv_leq, sv_gtr, sv_geq, sv_eql, sv_neq, sv_not, sv_beq, sv_pick, sv_add, sv_sub, sv_fn, sv_eqs, E.den, List.map, K.holds] at hs
  simp only [asrOK_cons, asrOK_nil, if_true, if_false, Bool.false_eq_true, E.den] at ha
  obtain ⟨⟨h32, k32⟩, ⟨h31, k31⟩, ⟨h30, k30⟩, ⟨h29, k29⟩, ⟨h28, k28⟩, ⟨h27, k27⟩, ⟨h26, k26⟩, ⟨h25, k25⟩, ⟨h24, k24⟩, ⟨h23, k23⟩, ⟨h22, k22⟩, ⟨h21, k21⟩, ⟨h20, k20⟩, ⟨h19, k19⟩, ⟨h18, k18⟩, ⟨h17, k17⟩, ⟨h16, k16⟩, ⟨h15, k15⟩, ⟨h14, k14⟩, ⟨h13, k13⟩, ⟨h12, k12⟩, ⟨h11, k11⟩, ⟨h10, k10⟩, ⟨h9, k9⟩, ⟨h8, k8⟩, _⟩ := hs
  clear ha
  obtain ⟨r0, c0⟩ := lessen_round b0 b4 (.inl rfl) h8 h9 h10 h11 h12 h13
  obtain ⟨r1, c1⟩ := lessen_round b1 b5 c0 h14 h15 h16 h17 h18 h19
  obtain ⟨r2, c2⟩ := lessen_round b2 b6 c1 h20 h21 h22 h23 h24 h25
  obtain ⟨r3, c3⟩ := lessen_round b3 b7 c2 h26 h27 h28 h29 h30 h31
  clear h8 h9 h10 h11 h12 h13 h14 h15 h16 h17 h18 h19 h20 h21 h22 h23 h24 h25 h26 h27 h28 h29 h30 h31
  refine lessen_done (n := 4) (a := [ρ 0, ρ 1, ρ 2, ρ 3]) (b := [ρ 4, ρ 5, ρ 6, ρ 7]) (s := [ρ 10, ρ 16, ρ 22, ρ 28]) (c := ρ 31) (d := ρ 32) (u64s_cons k10 (u64s_cons k16 (u64s_cons k22 (u64s_cons k28 u64s_nil)))) rfl ?_ c3 h32
  simp only [val, big]
  omega

/-! ### addW -/
def su_addW : Summ := ⟨[.slc 4, .slc 4, .slc 4], none, [.slc 4]⟩
def t_addW0 : CT := .node (.v 19)
  (.leaf ⟨[(24, .bool, .fn 29 [.v 12, .v 13, .v 14, .v 15, .v 8, .v 9, .v 10, .v 11] 4),
    (23, .i .u64, .fn 29 [.v 12, .v 13, .v 14, .v 15, .v 8, .v 9, .v 10, .v 11] 3),
    (22, .i .u64, .fn 29 [.v 12, .v 13, .v 14, .v 15, .v 8, .v 9, .v 10, .v 11] 2),
    (21, .i .u64, .fn 29 [.v 12, .v 13, .v 14, .v 15, .v 8, .v 9, .v 10, .v 11] 1),
    (20, .i .u64, .fn 29 [.v 12, .v 13, .v 14, .v 15, .v 8, .v 9, .v 10, .v 11] 0),
    (19, .bool, .pick (.v 16) (.c 1) (.v 18)),
    (18, .bool, .not (.v 17)),
    (17, .bool, .fn 9 [.v 12, .v 13, .v 14, .v 15, .v 8, .v 9, .v 10, .v 11] 0),
    (16, .bool, .fn 30 [.v 0, .v 1, .v 2, .v 3, .v 4, .v 5, .v 6, .v 7] 4),
    (15, .i .u64, .fn 30 [.v 0, .v 1, .v 2, .v 3, .v 4, .v 5, .v 6, .v 7] 3),
    (14, .i .u64, .fn 30 [.v 0, .v 1, .v 2, .v 3, .v 4, .v 5, .v 6, .v 7] 2),
    (13, .i .u64, .fn 30 [.v 0, .v 1, .v 2, .v 3, .v 4, .v 5, .v 6, .v 7] 1),
    (12, .i .u64, .fn 30 [.v 0, .v 1, .v 2, .v 3, .v 4, .v 5, .v 6, .v 7] 0)],
    [(.v 19, true)], [.v 20, .v 21, .v 22, .v 23]⟩)
  (.leaf ⟨[(19, .bool, .pick (.v 16) (.c 1) (.v 18)),
    (18, .bool, .not (.v 17)),
    (17, .bool, .fn 9 [.v 12, .v 13, .v 14, .v 15, .v 8, .v 9, .v 10, .v 11] 0),
    (16, .bool, .fn 30 [.v 0, .v 1, .v 2, .v 3, .v 4, .v 5, .v 6, .v 7] 4),
    (15, .i .u64, .fn 30 [.v 0, .v 1, .v 2, .v 3, .v 4, .v 5, .v 6, .v 7] 3),
    (14, .i .u64, .fn 30 [.v 0, .v 1, .v 2, .v 3, .v 4, .v 5, .v 6, .v 7] 2),
    (13, .i .u64, .fn 30 [.v 0, .v 1, .v 2, .v 3, .v 4, .v 5, .v 6, .v 7] 1),
    (12, .i .u64, .fn 30 [.v 0, .v 1, .v 2, .v 3, .v 4, .v 5, .v 6, .v 7] 0)],
    [(.v 19, false)], [.v 12, .v 13, .v 14, .v 15]⟩)
theorem chk_addW : checkFn Try.prog [(30, su_plus), (29, su_lessen), (9, su_less)] su_addW 400 Try.f27 (fun _ => t_addW0) = true := by kernel_rfl
theorem ok_addW : SummOK Try.prog 27 su_addW (Phi 27) := by
  refine summ_fn (Φ := Phi) 400 (fun _ => t_addW0) Try.func27 (tbl_cons ok_plus (tbl_cons ok_lessen (tbl_cons ok_less tbl_nil))) chk_addW ?_
  intro al hal l hl ρ hk hs ha
  have hn : su_addW.inKinds.length = 12 := rfl
  have hr : row ρ 12 = [ρ 0, ρ 1, ρ 2, ρ 3, ρ 4, ρ 5, ρ 6, ρ 7, ρ 8, ρ 9, ρ 10, ρ 11] := rfl
  rw [hn, hr] at hk ⊢
  simp only [su_addW, Summ.inKinds, List.flatMap_cons, List.flatMap_nil, List.replicate, List.cons_append, List.nil_append, List.append_nil, holdsAll, K.holds] at hk
  obtain ⟨b0, b1, b2, b3, b4, b5, b6, b7, b8, b9, b10, b11, _⟩ := hk
  simp only [t_addW0, CT.leaves, List.cons_append, List.nil_append, List.mem_cons, List.not_mem_nil, or_false] at hl
  rcases hl with rfl | rfl
  · simp only [satTr_cons, satTr_nil, sv_lss, sv_leq, sv_gtr, sv_geq, sv_eql, sv_neq, sv_not, sv_beq, sv_pick, sv_add, sv_sub, sv_fn, sv_eqs, E.den, List.map, K.holds] at hs
    simp only [asrOK_cons, asrOK_nil, if_true, if_false, Bool.false_eq_true, E.den] at ha
    obtain ⟨⟨h24, k24⟩, ⟨h23, k23⟩, ⟨h22, k22⟩, ⟨h21, k21⟩, ⟨h20, k20⟩, ⟨h19, k19⟩, ⟨h18, k18⟩, ⟨h17, k17⟩, ⟨h16, k16⟩, ⟨h15, k15⟩, ⟨h14, k14⟩, ⟨h13, k13⟩, ⟨h12, k12⟩, _⟩ := hs
    obtain ⟨a0, _⟩ := ha
    have g12 : [ρ 12, ρ 13, ρ 14, ρ 15] = wds 4 (val [ρ 0, ρ 1, ρ 2, ρ 3] + val [ρ 4, ρ 5, ρ 6, ρ 7]) := get4 rfl h12 h13 h14 h15
    have e16 : ρ 16 = b2i (decide (big 4 ≤ val [ρ 0, ρ 1, ρ 2, ρ 3] + val [ρ 4, ρ 5, ρ 6, ρ 7])) := h16
    rw [st_dec] at e16
    have e17 : ρ 17 = b2i (decide (val [ρ 12, ρ 13, ρ 14, ρ 15] < val [ρ 8, ρ 9, ρ 10, ρ 11])) := h17
    rw [st_dec] at e17
    have g20 : [ρ 20, ρ 21, ρ 22, ρ 23] = wds 4 (val [ρ 12, ρ 13, ρ 14, ρ 15] - val [ρ 8, ρ 9, ρ 10, ρ 11]) := get4 rfl h20 h21 h22 h23
    have e24 : ρ 24 = b2i (decide (val [ρ 12, ρ 13, ρ 14, ρ 15] < val [ρ 8, ρ 9, ρ 10, ρ 11])) := h24
    rw [st_dec] at e24
    rw [g12] at e17
    change wds 4 (addM (val [ρ 0, ρ 1, ρ 2, ρ 3]) (val [ρ 4, ρ 5, ρ 6, ρ 7]) (val [ρ 8, ρ 9, ρ 10, ρ 11])) = [ρ 20, ρ 21, ρ 22, ρ 23]
    rw [g20, g12]
    exact addW_yes (u64s_cons b0 (u64s_cons b1 (u64s_cons b2 (u64s_cons b3 u64s_nil)))) (u64s_cons b4 (u64s_cons b5 (u64s_cons b6 (u64s_cons b7 u64s_nil)))) (u64s_cons b8 (u64s_cons b9 (u64s_cons b10 (u64s_cons b11 u64s_nil)))) rfl (by by_cases hq : big 4 ≤ val [ρ 0, ρ 1, ρ 2, ρ 3] + val [ρ 4, ρ 5, ρ 6, ρ 7]; exact .inl hq; right; intro hlt; simp only [hq, hlt, not_true_eq_false, not_false_eq_true, true_and, false_and, false_or, or_false] at e16 e17; omega)
  · simp only [satTr_cons, satTr_nil, sv_lss, sv_leq, sv_gtr, sv_geq, sv_eql, sv_neq, sv_not, sv_beq, sv_pick, sv_add, sv_sub, sv_fn, sv_eqs, E.den, List.map, K.holds] at hs
    simp only [asrOK_cons, asrOK_nil, if_true, if_false, Bool.false_eq_true, E.den] at ha
    obtain ⟨⟨h19, k19⟩, ⟨h18, k18⟩, ⟨h17, k17⟩, ⟨h16, k16⟩, ⟨h15, k15⟩, ⟨h14, k14⟩, ⟨h13, k13⟩, ⟨h12, k12⟩, _⟩ := hs
    obtain ⟨a0, _⟩ := ha
    have g12 : [ρ 12, ρ 13, ρ 14, ρ 15] = wds 4 (val [ρ 0, ρ 1, ρ 2, ρ 3] + val [ρ 4, ρ 5, ρ 6, ρ 7]) := get4 rfl h12 h13 h14 h15
    have e16 : ρ 16 = b2i (decide (big 4 ≤ val [ρ 0, ρ 1, ρ 2, ρ 3] + val [ρ 4, ρ 5, ρ 6, ρ 7])) := h16
    rw [st_dec] at e16
    have e17 : ρ 17 = b2i (decide (val [ρ 12, ρ 13, ρ 14, ρ 15] < val [ρ 8, ρ 9, ρ 10, ρ 11])) := h17
    rw [st_dec] at e17
    rw [g12] at e17
    change wds 4 (addM (val [ρ 0, ρ 1, ρ 2, ρ 3]) (val [ρ 4, ρ 5, ρ 6, ρ 7]) (val [ρ 8, ρ 9, ρ 10, ρ 11])) = [ρ 12, ρ 13, ρ 14, ρ 15]
    rw [g12]
    by_cases hq : big 4 ≤ val [ρ 0, ρ 1, ρ 2, ρ 3] + val [ρ 4, ρ 5, ρ 6, ρ 7]
    · simp only [hq, not_true_eq_false, true_and, false_and, or_false] at e16; omega
    · by_cases hl : val (wds 4 (val [ρ 0, ρ 1, ρ 2, ρ 3] + val [ρ 4, ρ 5, ρ 6, ρ 7])) < val [ρ 8, ρ 9, ρ 10, ρ 11]
      · exact addW_no (u64s_cons b0 (u64s_cons b1 (u64s_cons b2 (u64s_cons b3 u64s_nil)))) (u64s_cons b4 (u64s_cons b5 (u64s_cons b6 (u64s_cons b7 u64s_nil)))) hq hl
      · simp only [hl, not_false_eq_true, true_and, false_and, false_or] at e17; omega

/-! ### oneW -/
def su_oneW : Summ := ⟨[.cn 4], none, [.slc 4]⟩
def t_oneW0 : CT := .leaf ⟨[],
    [], [.c 1, .c 0, .c 0, .c 0]⟩
theorem chk_oneW : checkFn Try.prog [] su_oneW 400 Try.f15 (fun _ => t_oneW0) = true := by kernel_rfl
theorem ok_oneW : SummOK Try.prog 15 su_oneW (Phi 15) := by
  refine summ_fn (Φ := Phi) 400 (fun _ => t_oneW0) Try.func15 tbl_nil chk_oneW ?_
  intro al hal l hl ρ hk hs ha
  have hn : su_oneW.inKinds.length = 1 := rfl
  have hr : row ρ 1 = [ρ 0] := rfl
  rw [hn, hr] at hk ⊢
  simp only [su_oneW, Summ.inKinds, List.flatMap_cons, List.flatMap_nil, List.replicate, List.cons_append, List.nil_append, List.append_nil, holdsAll, K.holds] at hk
  obtain ⟨b0, _⟩ := hk
  simp only [t_oneW0, CT.leaves, List.cons_append, List.nil_append, List.mem_cons, List.not_mem_nil, or_false] at hl
  subst hl
  simp only [satTr_cons, satTr_nil, sv_lss, sv_leq, sv_gtr, sv_geq, sv_eql, sv_neq, sv_not, sv_beq, sv_pick, sv_add, sv_sub, sv_fn, sv_eqs, E.den, List.map, K.holds] at hs
  simp only [asrOK_cons, asrOK_nil, if_true, if_false, Bool.false_eq_true, E.den] at ha
  clear hs
  clear ha
  change wds 4 1 = [1, 0, 0, 0]
  kernel_rfl

/-! ### shifted -/
def su_shifted : Summ := ⟨[.slc 4, .slc 4], none, [.slc 4]⟩
def form_shifted : Tmpl := { kin := [.i .u64, .i .u64, .i .u64, .i .u64, .i .u64, .i .u64, .i .u64, .i .u64, .i .i64], slots := [(0, .s (.slc 2 0 4 4)), (1, .s (.slc 1 0 4 4)), (5, .s (.int .i64 (.v 8)))], mem := [(2, [.int .u64 (.v 0), .int .u64 (.v 1), .int .u64 (.v 2), .int .u64 (.v 3)]), (1, [.int .u64 (.v 4), .int .u64 (.v 5), .int .u64 (.v 6), .int .u64 (.v 7)])], nr := 3 }
def t_shifted0 : CT := .leaf ⟨[(11, .i .u64, .fn 27 [.v 0, .v 1, .v 2, .v 3, .v 0, .v 1, .v 2, .v 3, .v 4, .v 5, .v 6, .v 7] 3),
    (10, .i .u64, .fn 27 [.v 0, .v 1, .v 2, .v 3, .v 0, .v 1, .v 2, .v 3, .v 4, .v 5, .v 6, .v 7] 2),
    (9, .i .u64, .fn 27 [.v 0, .v 1, .v 2, .v 3, .v 0, .v 1, .v 2, .v 3, .v 4, .v 5, .v 6, .v 7] 1),
    (8, .i .u64, .fn 27 [.v 0, .v 1, .v 2, .v 3, .v 0, .v 1, .v 2, .v 3, .v 4, .v 5, .v 6, .v 7] 0)],
    [], [.v 8, .v 9, .v 10, .v 11, .v 4, .v 5, .v 6, .v 7, .c 1, .c 1]⟩
def t_shifted1 : CT := .node (.v 9)
  (.leaf ⟨[(14, .i .i64, .bin .add .i64 (.v 8) (.c 1)),
    (13, .i .u64, .fn 27 [.v 0, .v 1, .v 2, .v 3, .v 0, .v 1, .v 2, .v 3, .v 4, .v 5, .v 6, .v 7] 3),
    (12, .i .u64, .fn 27 [.v 0, .v 1, .v 2, .v 3, .v 0, .v 1, .v 2, .v 3, .v 4, .v 5, .v 6, .v 7] 2),
    (11, .i .u64, .fn 27 [.v 0, .v 1, .v 2, .v 3, .v 0, .v 1, .v 2, .v 3, .v 4, .v 5, .v 6, .v 7] 1),
    (10, .i .u64, .fn 27 [.v 0, .v 1, .v 2, .v 3, .v 0, .v 1, .v 2, .v 3, .v 4, .v 5, .v 6, .v 7] 0),
    (9, .bool, .cmp .lss (.v 8) (.c 256))],
    [(.v 9, true)], [.v 10, .v 11, .v 12, .v 13, .v 4, .v 5, .v 6, .v 7, .v 14, .c 1]⟩)
  (.leaf ⟨[(9, .bool, .cmp .lss (.v 8) (.c 256))],
    [(.v 9, false)], [.v 0, .v 1, .v 2, .v 3, .v 4, .v 5, .v 6, .v 7, .v 8, .c 0]⟩)
def t_shifted2 : CT := .leaf ⟨[],
    [], [.v 0, .v 1, .v 2, .v 3]⟩
theorem chk_shifted : loopChk Try.prog [(27, su_addW)] su_shifted 400 1 Try.f14 form_shifted t_shifted0 t_shifted1 t_shifted2 = true := by kernel_rfl
theorem ok_shifted : SummOK Try.prog 14 su_shifted (Phi 14) := by
  refine summ_loop (Φ := Phi) (τ := form_shifted) (preF := shPre 4) (step := shStep 4) (postF := fun vs => vs.take 4) t_shifted0 t_shifted1 t_shifted2 Try.func14 (tbl_cons ok_addW tbl_nil) chk_shifted ?_ ?_ ?_ ?_
  · intro l hl ρ hk hs ha
    have hn : su_shifted.inKinds.length = 8 := rfl
    have hr : row ρ 8 = [ρ 0, ρ 1, ρ 2, ρ 3, ρ 4, ρ 5, ρ 6, ρ 7] := rfl
    rw [hn, hr] at hk ⊢
    simp only [su_shifted, form_shifted, Summ.inKinds, List.flatMap_cons, List.flatMap_nil, List.replicate, List.cons_append, List.nil_append, List.append_nil, holdsAll, K.holds] at hk
    obtain ⟨b0, b1, b2, b3, b4, b5, b6, b7, _⟩ := hk
    simp only [t_shifted0, CT.leaves, List.cons_append, List.nil_append, List.mem_cons, List.not_mem_nil, or_false] at hl
    subst hl
    simp only [satTr_cons, satTr_nil, sv_lss, sv_leq, sv_gtr, sv_geq, sv_eql, sv_neq, sv_not, sv_beq, sv_pick, sv_add, sv_sub, sv_fn, sv_eqs, E.den, List.map, K.holds] at hs
    simp only [asrOK_cons, asrOK_nil, if_true, if_false, Bool.false_eq_true, E.den] at ha
    obtain ⟨⟨h11, k11⟩, ⟨h10, k10⟩, ⟨h9, k9⟩, ⟨h8, k8⟩, _⟩ := hs
    clear ha
    have g8 : [ρ 8, ρ 9, ρ 10, ρ 11] = wds 4 (addM (val [ρ 0, ρ 1, ρ 2, ρ 3]) (val [ρ 0, ρ 1, ρ 2, ρ 3]) (val [ρ 4, ρ 5, ρ 6, ρ 7])) := get4 rfl h8 h9 h10 h11
    change wds 4 (addM (val [ρ 0, ρ 1, ρ 2, ρ 3]) (val [ρ 0, ρ 1, ρ 2, ρ 3]) (val [ρ 4, ρ 5, ρ 6, ρ 7])) ++ [ρ 4, ρ 5, ρ 6, ρ 7] ++ [1] ++ [1] = _
    rw [← g8]
    rfl
  · intro l hl ρ hk hs ha
    have hn : form_shifted.kin.length = 9 := rfl
    have hr : row ρ 9 = [ρ 0, ρ 1, ρ 2, ρ 3, ρ 4, ρ 5, ρ 6, ρ 7, ρ 8] := rfl
    rw [hn, hr] at hk ⊢
    simp only [su_shifted, form_shifted, Summ.inKinds, List.flatMap_cons, List.flatMap_nil, List.replicate, List.cons_append, List.nil_append, List.append_nil, holdsAll, K.holds] at hk
    obtain ⟨b0, b1, b2, b3, b4, b5, b6, b7, b8, _⟩ := hk
    simp only [t_shifted1, CT.leaves, List.cons_append, List.nil_append, List.mem_cons, List.not_mem_nil, or_false] at hl
    rcases hl with rfl | rfl
    · simp only [satTr_cons, satTr_nil, sv_lss, sv_leq, sv_gtr, sv_geq, sv_eql, sv_neq, sv_not, sv_beq, sv_pick, sv_add, sv_sub, sv_fn, sv_eqs, E.den, List.map, K.holds] at hs
      simp only [asrOK_cons, asrOK_nil, if_true, if_false, Bool.false_eq_true, E.den] at ha
      obtain ⟨⟨h14, k14⟩, ⟨h13, k13⟩, ⟨h12, k12⟩, ⟨h11, k11⟩, ⟨h10, k10⟩, ⟨h9, k9⟩, _⟩ := hs
      obtain ⟨a0, _⟩ := ha
      have g10 : [ρ 10, ρ 11, ρ 12, ρ 13] = wds 4 (addM (val [ρ 0, ρ 1, ρ 2, ρ 3]) (val [ρ 0, ρ 1, ρ 2, ρ 3]) (val [ρ 4, ρ 5, ρ 6, ρ 7])) := get4 rfl h10 h11 h12 h13
      have hi : I.val Phi ρ (.bin .add .i64 (.v 8) (.c 1)) = ρ 8 + 1 := i64_inc (x := ρ 8) b8.1 (by omega)
      rw [hi] at h14
      change (if ρ 8 < 64 * 4 then wds 4 (addM (val [ρ 0, ρ 1, ρ 2, ρ 3]) (val [ρ 0, ρ 1, ρ 2, ρ 3]) (val [ρ 4, ρ 5, ρ 6, ρ 7])) ++ [ρ 4, ρ 5, ρ 6, ρ 7] ++ [ρ 8 + 1, 1] else _) = _
      rw [if_pos (by omega), ← g10, ← h14]
      rfl
    · simp only [satTr_cons, satTr_nil, sv_lss, sv_leq, sv_gtr, sv_geq, sv_eql, sv_neq, sv_not, sv_beq, sv_pick, sv_add, sv_sub, sv_fn, sv_eqs, E.den, List.map, K.holds] at hs
      simp only [asrOK_cons, asrOK_nil, if_true, if_false, Bool.false_eq_true, E.den] at ha
      obtain ⟨⟨h9, k9⟩, _⟩ := hs
      obtain ⟨a0, _⟩ := ha
      change (if ρ 8 < 64 * 4 then _ else [ρ 0, ρ 1, ρ 2, ρ 3, ρ 4, ρ 5, ρ 6, ρ 7, ρ 8] ++ [0]) = _
      rw [if_neg (by omega)]
      rfl
  · intro l hl ρ hk hs ha
    have hn : form_shifted.kin.length = 9 := rfl
    have hr : row ρ 9 = [ρ 0, ρ 1, ρ 2, ρ 3, ρ 4, ρ 5, ρ 6, ρ 7, ρ 8] := rfl
    rw [hn, hr] at hk ⊢
    simp only [su_shifted, form_shifted, Summ.inKinds, List.flatMap_cons, List.flatMap_nil, List.replicate, List.cons_append, List.nil_append, List.append_nil, holdsAll, K.holds] at hk
    obtain ⟨b0, b1, b2, b3, b4, b5, b6, b7, b8, _⟩ := hk
    simp only [t_shifted2, CT.leaves, List.cons_append, List.nil_append, List.mem_cons, List.not_mem_nil, or_false] at hl
    subst hl
    simp only [satTr_cons, satTr_nil, sv_lss, sv_leq, sv_gtr, sv_geq, sv_eql, sv_neq, sv_not, sv_beq, sv_pick, sv_add, sv_sub, sv_fn, sv_eqs, E.den, List.map, K.holds] at hs
    simp only [asrOK_cons, asrOK_nil, if_true, if_false, Bool.false_eq_true, E.den] at ha
    clear hs
    clear ha
    rfl
  · intro ins hins
    exact shift_done (n := 4) (by decide) ins (by have := holdsAll_length hins; exact this)

/-! ### isZero -/
def su_isZero : Summ := ⟨[.ptr 4], none, [.sc .bool]⟩
def t_isZero0 : CT := .leaf ⟨[(7, .bool, .cmp .eql (.v 6) (.c 0)),
    (6, .i .u64, .bin .or .u64 (.v 5) (.v 0)),
    (5, .i .u64, .bin .or .u64 (.v 4) (.v 1)),
    (4, .i .u64, .bin .or .u64 (.v 3) (.v 2))],
    [], [.v 7]⟩
theorem chk_isZero : checkFn Try.prog [] su_isZero 400 Try.f25 (fun _ => t_isZero0) = true := by kernel_rfl
theorem ok_isZero : SummOK Try.prog 25 su_isZero (Phi 25) := by
  refine summ_fn (Φ := Phi) 400 (fun _ => t_isZero0) Try.func25 tbl_nil chk_isZero ?_
  intro al hal l hl ρ hk hs ha
  have hn : su_isZero.inKinds.length = 4 := rfl
  have hr : row ρ 4 = [ρ 0, ρ 1, ρ 2, ρ 3] := rfl
  rw [hn, hr] at hk ⊢
  simp only [su_isZero, Summ.inKinds, List.flatMap_cons, List.flatMap_nil, List.replicate, List.cons_append, List.nil_append, List.append_nil, holdsAll, K.holds] at hk
  obtain ⟨b0, b1, b2, b3, _⟩ := hk
  simp only [t_isZero0, CT.leaves, List.cons_append, List.nil_append, List.mem_cons, List.not_mem_nil, or_false] at hl
  subst hl
  simp only [satTr_cons, satTr_nil, sv_lss, sv_leq, sv_gtr, sv_geq, sv_eql, sv_neq, sv_not, sv_beq, sv_pick, sv_add, sv_sub, sv_fn, sv_eqs, E.den, List.map, K.holds] at hs
  simp only [asrOK_cons, asrOK_nil, if_true, if_false, Bool.false_eq_true, E.den] at ha
  obtain ⟨⟨h7, k7⟩, ⟨h6, k6⟩, ⟨h5, k5⟩, ⟨h4, k4⟩, _⟩ := hs
  clear ha
  have z4 : ρ 4 = 0 ↔ ρ 3 = 0 ∧ ρ 2 = 0 := or_zero b3 b2 h4
  have z5 : ρ 5 = 0 ↔ ρ 4 = 0 ∧ ρ 1 = 0 := or_zero k4 b1 h5
  have z6 : ρ 6 = 0 ↔ ρ 5 = 0 ∧ ρ 0 = 0 := or_zero k5 b0 h6
  refine dec_one (p := val [ρ 0, ρ 1, ρ 2, ρ 3] = 0) (z := ρ 7) ?_
  simp only [val, q, List.cons.injEq, and_true]
  clear h4 h5 h6
  omega

/-! ### isOne -/
def su_isOne : Summ := ⟨[.ptr 4], none, [.sc .bool]⟩
def t_isOne0 : CT := .leaf ⟨[(11, .bool, .cmp .eql (.v 10) (.c 0)),
    (10, .i .u64, .bin .or .u64 (.v 8) (.v 9)),
    (9, .i .u64, .bin .xor .u64 (.v 0) (.c 12436184717236109307)),
    (8, .i .u64, .bin .or .u64 (.v 6) (.v 7)),
    (7, .i .u64, .bin .xor .u64 (.v 1) (.c 3962172157175319849)),
    (6, .i .u64, .bin .or .u64 (.v 4) (.v 5)),
    (5, .i .u64, .bin .xor .u64 (.v 2) (.c 7381016538464732718)),
    (4, .i .u64, .bin .xor .u64 (.v 3) (.c 1011752739694698287))],
    [], [.v 11]⟩
theorem chk_isOne : checkFn Try.prog [] su_isOne 400 Try.f26 (fun _ => t_isOne0) = true := by kernel_rfl
theorem ok_isOne : SummOK Try.prog 26 su_isOne (Phi 26) := by
  refine summ_fn (Φ := Phi) 400 (fun _ => t_isOne0) Try.func26 tbl_nil chk_isOne ?_
  intro al hal l hl ρ hk hs ha
  have hn : su_isOne.inKinds.length = 4 := rfl
  have hr : row ρ 4 = [ρ 0, ρ 1, ρ 2, ρ 3] := rfl
  rw [hn, hr] at hk ⊢
  simp only [su_isOne, Summ.inKinds, List.flatMap_cons, List.flatMap_nil, List.replicate, List.cons_append, List.nil_append, List.append_nil, holdsAll, K.holds] at hk
  obtain ⟨b0, b1, b2, b3, _⟩ := hk
  simp only [t_isOne0, CT.leaves, List.cons_append, List.nil_append, List.mem_cons, List.not_mem_nil, or_false] at hl
  subst hl
  simp only [satTr_cons, satTr_nil, sv_lss, sv_leq, sv_gtr, sv_geq, sv_eql, sv_neq, sv_not, sv_beq, sv_pick, sv_add, sv_sub, sv_fn, sv_eqs, E.den, List.map, K.holds] at hs
  simp only [asrOK_cons, asrOK_nil, if_true, if_false, Bool.false_eq_true, E.den] at ha
  obtain ⟨⟨h11, k11⟩, ⟨h10, k10⟩, ⟨h9, k9⟩, ⟨h8, k8⟩, ⟨h7, k7⟩, ⟨h6, k6⟩, ⟨h5, k5⟩, ⟨h4, k4⟩, _⟩ := hs
  clear ha
  have z4 : ρ 4 = 0 ↔ ρ 3 = 1011752739694698287 := xor_zero b3 (by decide) h4
  have z5 : ρ 5 = 0 ↔ ρ 2 = 7381016538464732718 := xor_zero b2 (by decide) h5
  have z6 : ρ 6 = 0 ↔ ρ 4 = 0 ∧ ρ 5 = 0 := or_zero k4 k5 h6
  have z7 : ρ 7 = 0 ↔ ρ 1 = 3962172157175319849 := xor_zero b1 (by decide) h7
  have z8 : ρ 8 = 0 ↔ ρ 6 = 0 ∧ ρ 7 = 0 := or_zero k6 k7 h8
  have z9 : ρ 9 = 0 ↔ ρ 0 = 12436184717236109307 := xor_zero b0 (by decide) h9
  have z10 : ρ 10 = 0 ↔ ρ 8 = 0 ∧ ρ 9 = 0 := or_zero k8 k9 h10
  refine dec_one (p := [ρ 0, ρ 1, ρ 2, ρ 3] = wds 4 r) (z := ρ 11) ?_
  have hw : wds 4 r = [12436184717236109307, 3962172157175319849, 7381016538464732718, 1011752739694698287] := by kernel_rfl
  rw [hw]
  simp only [val, q, List.cons.injEq, and_true]
  clear h4 h5 h6 h7 h8 h9 h10
  omega

/-! ### iIsZero -/
def su_iIsZero : Summ := ⟨[.agg 4], none, [.sc .bool]⟩
def t_iIsZero0 : CT := .leaf ⟨[(4, .bool, .fn 25 [.v 0, .v 1, .v 2, .v 3] 0)],
    [], [.v 4]⟩
theorem chk_iIsZero : checkFn Try.prog [(25, su_isZero)] su_iIsZero 400 Try.f11 (fun _ => t_iIsZero0) = true := by kernel_rfl
theorem ok_iIsZero : SummOK Try.prog 11 su_iIsZero (Phi 11) := by
  refine summ_fn (Φ := Phi) 400 (fun _ => t_iIsZero0) Try.func11 (tbl_cons ok_isZero tbl_nil) chk_iIsZero ?_
  intro al hal l hl ρ hk hs ha
  have hn : su_iIsZero.inKinds.length = 4 := rfl
  have hr : row ρ 4 = [ρ 0, ρ 1, ρ 2, ρ 3] := rfl
  rw [hn, hr] at hk ⊢
  simp only [su_iIsZero, Summ.inKinds, List.flatMap_cons, List.flatMap_nil, List.replicate, List.cons_append, List.nil_append, List.append_nil, holdsAll, K.holds] at hk
  obtain ⟨b0, b1, b2, b3, _⟩ := hk
  simp only [t_iIsZero0, CT.leaves, List.cons_append, List.nil_append, List.mem_cons, List.not_mem_nil, or_false] at hl
  subst hl
  simp only [satTr_cons, satTr_nil, sv_lss, sv_leq, sv_gtr, sv_geq, sv_eql, sv_neq, sv_not, sv_beq, sv_pick, sv_add, sv_sub, sv_fn, sv_eqs, E.den, List.map, K.holds] at hs
  simp only [asrOK_cons, asrOK_nil, if_true, if_false, Bool.false_eq_true, E.den] at ha
  obtain ⟨⟨h4, k4⟩, _⟩ := hs
  clear ha
  have e4 : ρ 4 = b2i (decide (val [ρ 0, ρ 1, ρ 2, ρ 3] = 0)) := h4
  rw [st_dec] at e4
  exact congrArg (fun z => [z]) h4.symm

/-! ### iIsOne -/
def su_iIsOne : Summ := ⟨[.agg 4], none, [.sc .bool]⟩
def t_iIsOne0 : CT := .leaf ⟨[(4, .bool, .fn 26 [.v 0, .v 1, .v 2, .v 3] 0)],
    [], [.v 4]⟩
theorem chk_iIsOne : checkFn Try.prog [(26, su_isOne)] su_iIsOne 400 Try.f12 (fun _ => t_iIsOne0) = true := by kernel_rfl
theorem ok_iIsOne : SummOK Try.prog 12 su_iIsOne (Phi 12) := by
  refine summ_fn (Φ := Phi) 400 (fun _ => t_iIsOne0) Try.func12 (tbl_cons ok_isOne tbl_nil) chk_iIsOne ?_
  intro al hal l hl ρ hk hs ha
  have hn : su_iIsOne.inKinds.length = 4 := rfl
  have hr : row ρ 4 = [ρ 0, ρ 1, ρ 2, ρ 3] := rfl
  rw [hn, hr] at hk ⊢
  simp only [su_iIsOne, Summ.inKinds, List.flatMap_cons, List.flatMap_nil, List.replicate, List.cons_append, List.nil_append, List.append_nil, holdsAll, K.holds] at hk
  obtain ⟨b0, b1, b2, b3, _⟩ := hk
  simp only [t_iIsOne0, CT.leaves, List.cons_append, List.nil_append, List.mem_cons, List.not_mem_nil, or_false] at hl
  subst hl
  simp only [satTr_cons, satTr_nil, sv_lss, sv_leq, sv_gtr, sv_geq, sv_eql, sv_neq, sv_not, sv_beq, sv_pick, sv_add, sv_sub, sv_fn, sv_eqs, E.den, List.map, K.holds] at hs
  simp only [asrOK_cons, asrOK_nil, if_true, if_false, Bool.false_eq_true, E.den] at ha
  obtain ⟨⟨h4, k4⟩, _⟩ := hs
  clear ha
  have e4 : ρ 4 = b2i (decide ([ρ 0, ρ 1, ρ 2, ρ 3] = wds 4 r)) := h4
  rw [st_dec] at e4
  exact congrArg (fun z => [z]) h4.symm

/-! ### lIsZero -/
def su_lIsZero : Summ := ⟨[.agg 4], none, [.sc .bool]⟩
def t_lIsZero0 : CT := .node (.v 9)
  (.leaf ⟨[(9, .bool, .not (.v 8)),
    (8, .bool, .fn 9 [.v 0, .v 1, .v 2, .v 3, .v 4, .v 5, .v 6, .v 7] 0),
    (7, .i .u64, .fn 10 [] 3),
    (6, .i .u64, .fn 10 [] 2),
    (5, .i .u64, .fn 10 [] 1),
    (4, .i .u64, .fn 10 [] 0)],
    [(.v 9, true)], [.c 1]⟩)
  (.node (.v 12)
  (.leaf ⟨[(27, .bool, .beq (.v 13) (.v 26)),
    (26, .bool, .fn 13 [.v 0, .v 1, .v 2, .v 3, .v 22, .v 23, .v 24, .v 25] 0),
    (25, .i .u64, .fn 14 [.v 14, .v 15, .v 16, .v 17, .v 18, .v 19, .v 20, .v 21] 3),
    (24, .i .u64, .fn 14 [.v 14, .v 15, .v 16, .v 17, .v 18, .v 19, .v 20, .v 21] 2),
    (23, .i .u64, .fn 14 [.v 14, .v 15, .v 16, .v 17, .v 18, .v 19, .v 20, .v 21] 1),
    (22, .i .u64, .fn 14 [.v 14, .v 15, .v 16, .v 17, .v 18, .v 19, .v 20, .v 21] 0),
    (21, .i .u64, .fn 10 [] 3),
    (20, .i .u64, .fn 10 [] 2),
    (19, .i .u64, .fn 10 [] 1),
    (18, .i .u64, .fn 10 [] 0),
    (17, .i .u64, .fn 15 [.c 4] 3),
    (16, .i .u64, .fn 15 [.c 4] 2),
    (15, .i .u64, .fn 15 [.c 4] 1),
    (14, .i .u64, .fn 15 [.c 4] 0),
    (13, .bool, .fn 12 [.v 0, .v 1, .v 2, .v 3] 0),
    (12, .bool, .beq (.v 10) (.v 11)),
    (11, .bool, .eqs [.v 0, .v 1, .v 2, .v 3] [.c 0, .c 0, .c 0, .c 0]),
    (10, .bool, .fn 11 [.v 0, .v 1, .v 2, .v 3] 0),
    (9, .bool, .not (.v 8)),
    (8, .bool, .fn 9 [.v 0, .v 1, .v 2, .v 3, .v 4, .v 5, .v 6, .v 7] 0),
    (7, .i .u64, .fn 10 [] 3),
    (6, .i .u64, .fn 10 [] 2),
    (5, .i .u64, .fn 10 [] 1),
    (4, .i .u64, .fn 10 [] 0)],
    [(.v 12, true), (.v 9, false)], [.v 27]⟩)
  (.leaf ⟨[(12, .bool, .beq (.v 10) (.v 11)),
    (11, .bool, .eqs [.v 0, .v 1, .v 2, .v 3] [.c 0, .c 0, .c 0, .c 0]),
    (10, .bool, .fn 11 [.v 0, .v 1, .v 2, .v 3] 0),
    (9, .bool, .not (.v 8)),
    (8, .bool, .fn 9 [.v 0, .v 1, .v 2, .v 3, .v 4, .v 5, .v 6, .v 7] 0),
    (7, .i .u64, .fn 10 [] 3),
    (6, .i .u64, .fn 10 [] 2),
    (5, .i .u64, .fn 10 [] 1),
    (4, .i .u64, .fn 10 [] 0)],
    [(.v 12, false), (.v 9, false)], [.c 0]⟩))
theorem chk_lIsZero : checkFn Try.prog [(9, su_less), (10, su_prime), (11, su_iIsZero), (12, su_iIsOne), (13, su_same), (14, su_shifted), (15, su_oneW)] su_lIsZero 400 Try.f3 (fun _ => t_lIsZero0) = true := by kernel_rfl
theorem ok_lIsZero : SummOK Try.prog 3 su_lIsZero (Phi 3) := by
  refine summ_fn (Φ := Phi) 400 (fun _ => t_lIsZero0) Try.func3 (tbl_cons ok_less (tbl_cons ok_prime (tbl_cons ok_iIsZero (tbl_cons ok_iIsOne (tbl_cons ok_same (tbl_cons ok_shifted (tbl_cons ok_oneW tbl_nil))))))) chk_lIsZero ?_
  intro al hal l hl ρ hk hs ha
  have hn : su_lIsZero.inKinds.length = 4 := rfl
  have hr : row ρ 4 = [ρ 0, ρ 1, ρ 2, ρ 3] := rfl
  rw [hn, hr] at hk ⊢
  simp only [su_lIsZero, Summ.inKinds, List.flatMap_cons, List.flatMap_nil, List.replicate, List.cons_append, List.nil_append, List.append_nil, holdsAll, K.holds] at hk
  obtain ⟨b0, b1, b2, b3, _⟩ := hk
  simp only [t_lIsZero0, CT.leaves, List.cons_append, List.nil_append, List.mem_cons, List.not_mem_nil, or_false] at hl
  rcases hl with rfl | rfl | rfl
  · simp only [satTr_cons, satTr_nil, sv_lss, sv_leq, sv_gtr, sv_geq, sv_eql, sv_neq, sv_not, sv_beq, sv_pick, sv_add, sv_sub, sv_fn, sv_eqs, E.den, List.map, K.holds] at hs
    simp only [asrOK_cons, asrOK_nil, if_true, if_false, Bool.false_eq_true, E.den] at ha
    obtain ⟨⟨h9, k9⟩, ⟨h8, k8⟩, ⟨h7, k7⟩, ⟨h6, k6⟩, ⟨h5, k5⟩, ⟨h4, k4⟩, _⟩ := hs
    obtain ⟨a0, _⟩ := ha
    have g4 : [ρ 4, ρ 5, ρ 6, ρ 7] = wds 4 q := get4 rfl h4 h5 h6 h7
    have e8 : ρ 8 = b2i (decide (val [ρ 0, ρ 1, ρ 2, ρ 3] < val [ρ 4, ρ 5, ρ 6, ρ 7])) := h8
    rw [st_dec] at e8
    rfl
  · simp only [satTr_cons, satTr_nil, sv_lss, sv_leq, sv_gtr, sv_geq, sv_eql, sv_neq, sv_not, sv_beq, sv_pick, sv_add, sv_sub, sv_fn, sv_eqs, E.den, List.map, K.holds] at hs
    simp only [asrOK_cons, asrOK_nil, if_true, if_false, Bool.false_eq_true, E.den] at ha
    obtain ⟨⟨h27, k27⟩, ⟨h26, k26⟩, ⟨h25, k25⟩, ⟨h24, k24⟩, ⟨h23, k23⟩, ⟨h22, k22⟩, ⟨h21, k21⟩, ⟨h20, k20⟩, ⟨h19, k19⟩, ⟨h18, k18⟩, ⟨h17, k17⟩, ⟨h16, k16⟩, ⟨h15, k15⟩, ⟨h14, k14⟩, ⟨h13, k13⟩, ⟨h12, k12⟩, ⟨h11, k11⟩, ⟨h10, k10⟩, ⟨h9, k9⟩, ⟨h8, k8⟩, ⟨h7, k7⟩, ⟨h6, k6⟩, ⟨h5, k5⟩, ⟨h4, k4⟩, _⟩ := hs
    obtain ⟨a0, a1, _⟩ := ha
    have g4 : [ρ 4, ρ 5, ρ 6, ρ 7] = wds 4 q := get4 rfl h4 h5 h6 h7
    have e8 : ρ 8 = b2i (decide (val [ρ 0, ρ 1, ρ 2, ρ 3] < val [ρ 4, ρ 5, ρ 6, ρ 7])) := h8
    rw [st_dec] at e8
    have e10 : ρ 10 = b2i (decide (val [ρ 0, ρ 1, ρ 2, ρ 3] = 0)) := h10
    rw [st_dec] at e10
    have e13 : ρ 13 = b2i (decide ([ρ 0, ρ 1, ρ 2, ρ 3] = wds 4 r)) := h13
    rw [st_dec] at e13
    have g14 : [ρ 14, ρ 15, ρ 16, ρ 17] = wds 4 1 := get4 rfl h14 h15 h16 h17
    have g18 : [ρ 18, ρ 19, ρ 20, ρ 21] = wds 4 q := get4 rfl h18 h19 h20 h21
    have g22 : [ρ 22, ρ 23, ρ 24, ρ 25] = shiftF 4 [ρ 14, ρ 15, ρ 16, ρ 17, ρ 18, ρ 19, ρ 20, ρ 21] := get4 rfl h22 h23 h24 h25
    have e26 : ρ 26 = b2i (decide ([ρ 0, ρ 1, ρ 2, ρ 3] = [ρ 22, ρ 23, ρ 24, ρ 25])) := h26
    rw [st_dec] at e26
    have hz0 : val [0, 0, 0, 0] = 0 := by kernel_rfl
    have uz : u64s [0, 0, 0, 0] := (u64s_cons (by decide) (u64s_cons (by decide) (u64s_cons (by decide) (u64s_cons (by decide) u64s_nil))))
    have hzz : [ρ 0, ρ 1, ρ 2, ρ 3] = [0, 0, 0, 0] ↔ val [ρ 0, ρ 1, ρ 2, ρ 3] = 0 := ⟨fun h => by rw [h, hz0], fun h => val_inj (u64s_cons b0 (u64s_cons b1 (u64s_cons b2 (u64s_cons b3 u64s_nil)))) uz rfl (by rw [h, hz0])⟩
    rw [hzz] at h11
    have hcl : shiftF 4 (wds 4 1 ++ wds 4 q) = wds 4 r := by kernel_rfl
    have e3 : [ρ 14, ρ 15, ρ 16, ρ 17, ρ 18, ρ 19, ρ 20, ρ 21] = wds 4 1 ++ wds 4 q := by rw [← g14, ← g18]; rfl
    have hsh : [ρ 22, ρ 23, ρ 24, ρ 25] = wds 4 r := by rw [g22, e3, hcl]
    rw [hsh] at e26
    change [1] = [ρ 27]
    have hfin : ρ 27 = 1 := by
      clear g22 g14 g18 hsh e3 hcl
      by_cases hP : [ρ 0, ρ 1, ρ 2, ρ 3] = wds 4 r
      · simp only [hP, true_and, not_true_eq_false, false_and, or_false] at e13 e26; omega
      · simp only [hP, false_and, not_false_eq_true, true_and, false_or] at e13 e26; omega
    rw [hfin]
  · simp only [satTr_cons, satTr_nil, sv_lss, sv_leq, sv_gtr, sv_geq, sv_eql, sv_neq, sv_not, sv_beq, sv_pick, sv_add, sv_sub, sv_fn, sv_eqs, E.den, List.map, K.holds] at hs
    simp only [asrOK_cons, asrOK_nil, if_true, if_false, Bool.false_eq_true, E.den] at ha
    obtain ⟨⟨h12, k12⟩, ⟨h11, k11⟩, ⟨h10, k10⟩, ⟨h9, k9⟩, ⟨h8, k8⟩, ⟨h7, k7⟩, ⟨h6, k6⟩, ⟨h5, k5⟩, ⟨h4, k4⟩, _⟩ := hs
    obtain ⟨a0, a1, _⟩ := ha
    have g4 : [ρ 4, ρ 5, ρ 6, ρ 7] = wds 4 q := get4 rfl h4 h5 h6 h7
    have e8 : ρ 8 = b2i (decide (val [ρ 0, ρ 1, ρ 2, ρ 3] < val [ρ 4, ρ 5, ρ 6, ρ 7])) := h8
    rw [st_dec] at e8
    have e10 : ρ 10 = b2i (decide (val [ρ 0, ρ 1, ρ 2, ρ 3] = 0)) := h10
    rw [st_dec] at e10
    have hz0 : val [0, 0, 0, 0] = 0 := by kernel_rfl
    have uz : u64s [0, 0, 0, 0] := (u64s_cons (by decide) (u64s_cons (by decide) (u64s_cons (by decide) (u64s_cons (by decide) u64s_nil))))
    have hzz : [ρ 0, ρ 1, ρ 2, ρ 3] = [0, 0, 0, 0] ↔ val [ρ 0, ρ 1, ρ 2, ρ 3] = 0 := ⟨fun h => by rw [h, hz0], fun h => val_inj (u64s_cons b0 (u64s_cons b1 (u64s_cons b2 (u64s_cons b3 u64s_nil)))) uz rfl (by rw [h, hz0])⟩
    rw [hzz] at h11
    omega

end Go.Proofs.Ytebocdegfofhdaa
