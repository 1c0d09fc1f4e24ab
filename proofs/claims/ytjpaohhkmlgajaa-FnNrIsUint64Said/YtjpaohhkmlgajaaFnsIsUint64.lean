/- The functions of the seat Ytjpaohhkmlgajaa, each once: its ways through the text, and what it comes to in numbers. Written by a program (gen.py). -/
import Derived.Test.YtjpaohhkmlgajaaSymAc
import Derived.Test.YtjpaohhkmlgajaaSymU
import Derived.Test.YtjpaohhkmlgajaaSymZ
import Derived.Test.YtjpaohhkmlgajaaRows
set_option linter.unusedVariables false
set_option linter.unusedSimpArgs false
set_option maxRecDepth 4000
namespace Go.Proofs.Ytjpaohhkmlgajaa
open Go.Sym

def q : Int := 21888242871839275222246405745257275088548364400416034343698204186575808495617
def r : Int := 6350874878119819312338956282401532410528162663560392320966563075034087161851

def ri : Int := 9915499612839321149637521777990102151350674507940716049588462388200839649614
theorem ri_eq : (big 4 * ri) % q = 1 % q := by kernel_rfl
theorem q_pos : (0 : Int) < q := by decide
theorem q_lt : q < big 4 := by decide

def Phi : Nat → List Int → List Int
  | 6 => lessF 4
  | 9 => sameF 4
  | 7 => primeF 4 q
  | 19 => plusF 4
  | 26 => lessenF 4
  | 18 => addWF 4
  | 29 => setF 4 r
  | 33 => smallF q
  | 23 => setF 4 r
  | 15 => setF 4 r
  | 35 => mul64F
  | 31 => madd0F
  | 32 => madd2F
  | 30 => fmF 4 q ri
  | 25 => fmF 4 q ri
  | 27 => fmF 4 q ri
  | 17 => fmF 4 q ri
  | 28 => fitsF
  | 21 => isUF q ri
  | 22 => u64F q ri
  | 24 => cmpF 4 q ri
  | 8 => fmF 4 q ri
  | 13 => isUF q ri
  | 14 => u64F q ri
  | 16 => cmpF 4 q ri
  | 20 => halfF 4
  | 12 => bitsWF 4
  | 11 => regF 4
  | 3 => fun _ => [1]
  | 4 => fun _ => [1]
  | 5 => fun _ => [1]
  | 36 => add64F
  | 34 => sub64F
  | 10 => shiftF 4
  | _ => fun _ => []

theorem ok_add64 : SummOK Try.prog 36 addSub (Phi 36) := summ_add64 Try.func36 (by kernel_rfl) (by kernel_rfl) (by kernel_rfl) (by kernel_rfl)

theorem ok_sub64 : SummOK Try.prog 34 addSub (Phi 34) := summ_sub64 Try.func34 (by kernel_rfl) (by kernel_rfl) (by kernel_rfl) (by kernel_rfl)

/-! ### mul64 -/
def su_mul64 : Summ := ⟨[.sc (.i .u64), .sc (.i .u64)], none, [.sc (.i .u64), .sc (.i .u64)]⟩
def t_mul640 : CT := .leaf ⟨[(18, .i .u64, .bin .mul .u64 (.v 0) (.v 1)),
    (17, .i .u64, .bin .add .u64 (.v 15) (.v 16)),
    (16, .i .u64, .shr .u64 (.v 13) (.c 32)),
    (15, .i .u64, .bin .add .u64 (.v 14) (.v 11)),
    (14, .i .u64, .bin .mul .u64 (.v 3) (.v 5)),
    (13, .i .u64, .bin .add .u64 (.v 10) (.v 12)),
    (12, .i .u64, .bin .mul .u64 (.v 2) (.v 5)),
    (11, .i .u64, .shr .u64 (.v 9) (.c 32)),
    (10, .i .u64, .bin .and .u64 (.v 9) (.c 4294967295)),
    (9, .i .u64, .bin .add .u64 (.v 7) (.v 8)),
    (8, .i .u64, .shr .u64 (.v 6) (.c 32)),
    (7, .i .u64, .bin .mul .u64 (.v 3) (.v 4)),
    (6, .i .u64, .bin .mul .u64 (.v 2) (.v 4)),
    (5, .i .u64, .shr .u64 (.v 1) (.c 32)),
    (4, .i .u64, .bin .and .u64 (.v 1) (.c 4294967295)),
    (3, .i .u64, .shr .u64 (.v 0) (.c 32)),
    (2, .i .u64, .bin .and .u64 (.v 0) (.c 4294967295))],
    [], [.v 17, .v 18]⟩
theorem chk_mul64 : checkFn Try.prog [] su_mul64 400 Try.f35 (fun _ => t_mul640) = true := by kernel_rfl
theorem ok_mul64 : SummOK Try.prog 35 su_mul64 (Phi 35) := by
  refine summ_fn (Φ := Phi) 400 (fun _ => t_mul640) Try.func35 tbl_nil chk_mul64 ?_
  intro al hal l hl ρ hk hs ha
  have hn : su_mul64.inKinds.length = 2 := rfl
  have hr : row ρ 2 = [ρ 0, ρ 1] := rfl
  rw [hn, hr] at hk ⊢
  simp only [su_mul64, Summ.inKinds, List.flatMap_cons, List.flatMap_nil, List.replicate, List.cons_append, List.nil_append, List.append_nil, holdsAll, K.holds] at hk
  obtain ⟨b0, b1, _⟩ := hk
  simp only [t_mul640, CT.leaves, List.cons_append, List.nil_append, List.mem_cons, List.not_mem_nil, or_false] at hl
  subst hl
  simp only [satTr_cons, satTr_nil, sv_lss, sv_leq, sv_gtr, sv_geq, sv_eql, sv_neq, sv_not, sv_beq, sv_pick, sv_add, sv_sub, sv_mul, sv_shr32, sv_shr1, sv_shl63, sv_fn, sv_eqs, E.den, List.map, K.holds] at hs
  simp only [asrOK_cons, asrOK_nil, if_true, if_false, Bool.false_eq_true, E.den] at ha
  obtain ⟨⟨h18, k18⟩, ⟨h17, k17⟩, ⟨h16, k16⟩, ⟨h15, k15⟩, ⟨h14, k14⟩, ⟨h13, k13⟩, ⟨h12, k12⟩, ⟨h11, k11⟩, ⟨h10, k10⟩, ⟨h9, k9⟩, ⟨h8, k8⟩, ⟨h7, k7⟩, ⟨h6, k6⟩, ⟨h5, k5⟩, ⟨h4, k4⟩, ⟨h3, k3⟩, ⟨h2, k2⟩, _⟩ := hs
  clear ha
  exact mul64_done b0 b1 h2 h3 h4 h5 h6 h7 h8 h9 k9 h10 h11 h12 h13 h14 h15 h16 h17 h18

/-! ### madd0 -/
def su_madd0 : Summ := ⟨[.sc (.i .u64), .sc (.i .u64), .sc (.i .u64)], none, [.sc (.i .u64)]⟩
def t_madd00 : CT := .leaf ⟨[(8, .bit, .fn 36 [.v 3, .c 0, .v 6] 1),
    (7, .i .u64, .fn 36 [.v 3, .c 0, .v 6] 0),
    (6, .bit, .fn 36 [.v 4, .v 2, .c 0] 1),
    (5, .i .u64, .fn 36 [.v 4, .v 2, .c 0] 0),
    (4, .i .u64, .fn 35 [.v 0, .v 1] 1),
    (3, .i .u64, .fn 35 [.v 0, .v 1] 0)],
    [], [.v 7]⟩
theorem chk_madd0 : checkFn Try.prog [(35, su_mul64), (36, addSub)] su_madd0 400 Try.f31 (fun _ => t_madd00) = true := by kernel_rfl
theorem ok_madd0 : SummOK Try.prog 31 su_madd0 (Phi 31) := by
  refine summ_fn (Φ := Phi) 400 (fun _ => t_madd00) Try.func31 (tbl_cons ok_mul64 (tbl_cons ok_add64 tbl_nil)) chk_madd0 ?_
  intro al hal l hl ρ hk hs ha
  have hn : su_madd0.inKinds.length = 3 := rfl
  have hr : row ρ 3 = [ρ 0, ρ 1, ρ 2] := rfl
  rw [hn, hr] at hk ⊢
  simp only [su_madd0, Summ.inKinds, List.flatMap_cons, List.flatMap_nil, List.replicate, List.cons_append, List.nil_append, List.append_nil, holdsAll, K.holds] at hk
  obtain ⟨b0, b1, b2, _⟩ := hk
  simp only [t_madd00, CT.leaves, List.cons_append, List.nil_append, List.mem_cons, List.not_mem_nil, or_false] at hl
  subst hl
  simp only [satTr_cons, satTr_nil, sv_lss, sv_leq, sv_gtr, sv_geq, sv_eql, sv_neq, sv_not, sv_beq, sv_pick, sv_add, sv_sub, sv_mul, sv_shr32, sv_shr1, sv_shl63, sv_fn, sv_eqs, E.den, List.map, K.holds] at hs
  simp only [asrOK_cons, asrOK_nil, if_true, if_false, Bool.false_eq_true, E.den] at ha
  obtain ⟨⟨h8, k8⟩, ⟨h7, k7⟩, ⟨h6, k6⟩, ⟨h5, k5⟩, ⟨h4, k4⟩, ⟨h3, k3⟩, _⟩ := hs
  clear ha
  have g3 : ρ 3 = ρ 0 * ρ 1 / 18446744073709551616 := h3
  have g4 : ρ 4 = ρ 0 * ρ 1 % 18446744073709551616 := h4
  have r5 : ρ 5 + 18446744073709551616 * ρ 6 = ρ 4 + ρ 2 + 0 := adc h5 h6
  have r7 : ρ 7 + 18446744073709551616 * ρ 8 = ρ 3 + 0 + ρ 6 := adc h7 h8
  exact madd0_done b0 b1 b2 g3 g4 r5 r7 k5 k7

/-! ### madd2 -/
def su_madd2 : Summ := ⟨[.sc (.i .u64), .sc (.i .u64), .sc (.i .u64), .sc (.i .u64)], none, [.sc (.i .u64), .sc (.i .u64)]⟩
def t_madd20 : CT := .leaf ⟨[(13, .bit, .fn 36 [.v 8, .c 0, .v 11] 1),
    (12, .i .u64, .fn 36 [.v 8, .c 0, .v 11] 0),
    (11, .bit, .fn 36 [.v 5, .v 6, .c 0] 1),
    (10, .i .u64, .fn 36 [.v 5, .v 6, .c 0] 0),
    (9, .bit, .fn 36 [.v 4, .c 0, .v 7] 1),
    (8, .i .u64, .fn 36 [.v 4, .c 0, .v 7] 0),
    (7, .bit, .fn 36 [.v 2, .v 3, .c 0] 1),
    (6, .i .u64, .fn 36 [.v 2, .v 3, .c 0] 0),
    (5, .i .u64, .fn 35 [.v 0, .v 1] 1),
    (4, .i .u64, .fn 35 [.v 0, .v 1] 0)],
    [], [.v 12, .v 10]⟩
theorem chk_madd2 : checkFn Try.prog [(35, su_mul64), (36, addSub)] su_madd2 400 Try.f32 (fun _ => t_madd20) = true := by kernel_rfl
theorem ok_madd2 : SummOK Try.prog 32 su_madd2 (Phi 32) := by
  refine summ_fn (Φ := Phi) 400 (fun _ => t_madd20) Try.func32 (tbl_cons ok_mul64 (tbl_cons ok_add64 tbl_nil)) chk_madd2 ?_
  intro al hal l hl ρ hk hs ha
  have hn : su_madd2.inKinds.length = 4 := rfl
  have hr : row ρ 4 = [ρ 0, ρ 1, ρ 2, ρ 3] := rfl
  rw [hn, hr] at hk ⊢
  simp only [su_madd2, Summ.inKinds, List.flatMap_cons, List.flatMap_nil, List.replicate, List.cons_append, List.nil_append, List.append_nil, holdsAll, K.holds] at hk
  obtain ⟨b0, b1, b2, b3, _⟩ := hk
  simp only [t_madd20, CT.leaves, List.cons_append, List.nil_append, List.mem_cons, List.not_mem_nil, or_false] at hl
  subst hl
  simp only [satTr_cons, satTr_nil, sv_lss, sv_leq, sv_gtr, sv_geq, sv_eql, sv_neq, sv_not, sv_beq, sv_pick, sv_add, sv_sub, sv_mul, sv_shr32, sv_shr1, sv_shl63, sv_fn, sv_eqs, E.den, List.map, K.holds] at hs
  simp only [asrOK_cons, asrOK_nil, if_true, if_false, Bool.false_eq_true, E.den] at ha
  obtain ⟨⟨h13, k13⟩, ⟨h12, k12⟩, ⟨h11, k11⟩, ⟨h10, k10⟩, ⟨h9, k9⟩, ⟨h8, k8⟩, ⟨h7, k7⟩, ⟨h6, k6⟩, ⟨h5, k5⟩, ⟨h4, k4⟩, _⟩ := hs
  clear ha
  have g4 : ρ 4 = ρ 0 * ρ 1 / 18446744073709551616 := h4
  have g5 : ρ 5 = ρ 0 * ρ 1 % 18446744073709551616 := h5
  have r6 : ρ 6 + 18446744073709551616 * ρ 7 = ρ 2 + ρ 3 + 0 := adc h6 h7
  have r8 : ρ 8 + 18446744073709551616 * ρ 9 = ρ 4 + 0 + ρ 7 := adc h8 h9
  have r10 : ρ 10 + 18446744073709551616 * ρ 11 = ρ 5 + ρ 6 + 0 := adc h10 h11
  have r12 : ρ 12 + 18446744073709551616 * ρ 13 = ρ 8 + 0 + ρ 11 := adc h12 h13
  exact madd2_done b0 b1 b2 b3 g4 g5 r6 r8 r10 r12 k6 k8 k10 k12 k7 k11

/-! ### small -/
def su_small : Summ := ⟨[.ptr 4], none, [.sc .bool]⟩
def t_small0 : CT := .node (.v 4)
  (.leaf ⟨[(4, .bool, .cmp .lss (.v 3) (.c 3486998266802970665))],
    [(.v 4, true)], [.c 1]⟩)
  (.node (.v 5)
  (.node (.v 6)
  (.leaf ⟨[(6, .bool, .cmp .lss (.v 2) (.c 13281191951274694749)),
    (5, .bool, .cmp .eql (.v 3) (.c 3486998266802970665)),
    (4, .bool, .cmp .lss (.v 3) (.c 3486998266802970665))],
    [(.v 6, true), (.v 5, true), (.v 4, false)], [.c 1]⟩)
  (.node (.v 7)
  (.node (.v 8)
  (.leaf ⟨[(8, .bool, .cmp .lss (.v 1) (.c 2896914383306846353)),
    (7, .bool, .cmp .eql (.v 2) (.c 13281191951274694749)),
    (6, .bool, .cmp .lss (.v 2) (.c 13281191951274694749)),
    (5, .bool, .cmp .eql (.v 3) (.c 3486998266802970665)),
    (4, .bool, .cmp .lss (.v 3) (.c 3486998266802970665))],
    [(.v 8, true), (.v 7, true), (.v 6, false), (.v 5, true), (.v 4, false)], [.c 1]⟩)
  (.node (.v 9)
  (.leaf ⟨[(10, .bool, .cmp .lss (.v 0) (.c 4891460686036598785)),
    (9, .bool, .cmp .eql (.v 1) (.c 2896914383306846353)),
    (8, .bool, .cmp .lss (.v 1) (.c 2896914383306846353)),
    (7, .bool, .cmp .eql (.v 2) (.c 13281191951274694749)),
    (6, .bool, .cmp .lss (.v 2) (.c 13281191951274694749)),
    (5, .bool, .cmp .eql (.v 3) (.c 3486998266802970665)),
    (4, .bool, .cmp .lss (.v 3) (.c 3486998266802970665))],
    [(.v 9, true), (.v 8, false), (.v 7, true), (.v 6, false), (.v 5, true), (.v 4, false)], [.v 10]⟩)
  (.leaf ⟨[(9, .bool, .cmp .eql (.v 1) (.c 2896914383306846353)),
    (8, .bool, .cmp .lss (.v 1) (.c 2896914383306846353)),
    (7, .bool, .cmp .eql (.v 2) (.c 13281191951274694749)),
    (6, .bool, .cmp .lss (.v 2) (.c 13281191951274694749)),
    (5, .bool, .cmp .eql (.v 3) (.c 3486998266802970665)),
    (4, .bool, .cmp .lss (.v 3) (.c 3486998266802970665))],
    [(.v 9, false), (.v 8, false), (.v 7, true), (.v 6, false), (.v 5, true), (.v 4, false)], [.c 0]⟩)))
  (.leaf ⟨[(7, .bool, .cmp .eql (.v 2) (.c 13281191951274694749)),
    (6, .bool, .cmp .lss (.v 2) (.c 13281191951274694749)),
    (5, .bool, .cmp .eql (.v 3) (.c 3486998266802970665)),
    (4, .bool, .cmp .lss (.v 3) (.c 3486998266802970665))],
    [(.v 7, false), (.v 6, false), (.v 5, true), (.v 4, false)], [.c 0]⟩)))
  (.leaf ⟨[(5, .bool, .cmp .eql (.v 3) (.c 3486998266802970665)),
    (4, .bool, .cmp .lss (.v 3) (.c 3486998266802970665))],
    [(.v 5, false), (.v 4, false)], [.c 0]⟩))
theorem chk_small : checkFn Try.prog [] su_small 400 Try.f33 (fun _ => t_small0) = true := by kernel_rfl
theorem ok_small : SummOK Try.prog 33 su_small (Phi 33) := by
  refine summ_fn (Φ := Phi) 400 (fun _ => t_small0) Try.func33 tbl_nil chk_small ?_
  intro al hal l hl ρ hk hs ha
  have hn : su_small.inKinds.length = 4 := rfl
  have hr : row ρ 4 = [ρ 0, ρ 1, ρ 2, ρ 3] := rfl
  rw [hn, hr] at hk ⊢
  simp only [su_small, Summ.inKinds, List.flatMap_cons, List.flatMap_nil, List.replicate, List.cons_append, List.nil_append, List.append_nil, holdsAll, K.holds] at hk
  obtain ⟨b0, b1, b2, b3, _⟩ := hk
  simp only [t_small0, CT.leaves, List.cons_append, List.nil_append, List.mem_cons, List.not_mem_nil, or_false] at hl
  rcases hl with rfl | rfl | rfl | rfl | rfl | rfl | rfl
  · simp only [satTr_cons, satTr_nil, sv_lss, sv_leq, sv_gtr, sv_geq, sv_eql, sv_neq, sv_not, sv_beq, sv_pick, sv_add, sv_sub, sv_mul, sv_shr32, sv_shr1, sv_shl63, sv_fn, sv_eqs, E.den, List.map, K.holds] at hs
    simp only [asrOK_cons, asrOK_nil, if_true, if_false, Bool.false_eq_true, E.den] at ha
    obtain ⟨⟨h4, k4⟩, _⟩ := hs
    obtain ⟨a0, _⟩ := ha
    refine dec_one (p := val [ρ 0, ρ 1, ρ 2, ρ 3] < q) (z := 1) ?_
    simp only [val, q, List.cons.injEq, and_true]
    omega
  · simp only [satTr_cons, satTr_nil, sv_lss, sv_leq, sv_gtr, sv_geq, sv_eql, sv_neq, sv_not, sv_beq, sv_pick, sv_add, sv_sub, sv_mul, sv_shr32, sv_shr1, sv_shl63, sv_fn, sv_eqs, E.den, List.map, K.holds] at hs
    simp only [asrOK_cons, asrOK_nil, if_true, if_false, Bool.false_eq_true, E.den] at ha
    obtain ⟨⟨h6, k6⟩, ⟨h5, k5⟩, ⟨h4, k4⟩, _⟩ := hs
    obtain ⟨a0, a1, a2, _⟩ := ha
    refine dec_one (p := val [ρ 0, ρ 1, ρ 2, ρ 3] < q) (z := 1) ?_
    simp only [val, q, List.cons.injEq, and_true]
    omega
  · simp only [satTr_cons, satTr_nil, sv_lss, sv_leq, sv_gtr, sv_geq, sv_eql, sv_neq, sv_not, sv_beq, sv_pick, sv_add, sv_sub, sv_mul, sv_shr32, sv_shr1, sv_shl63, sv_fn, sv_eqs, E.den, List.map, K.holds] at hs
    simp only [asrOK_cons, asrOK_nil, if_true, if_false, Bool.false_eq_true, E.den] at ha
    obtain ⟨⟨h8, k8⟩, ⟨h7, k7⟩, ⟨h6, k6⟩, ⟨h5, k5⟩, ⟨h4, k4⟩, _⟩ := hs
    obtain ⟨a0, a1, a2, a3, a4, _⟩ := ha
    refine dec_one (p := val [ρ 0, ρ 1, ρ 2, ρ 3] < q) (z := 1) ?_
    simp only [val, q, List.cons.injEq, and_true]
    omega
  · simp only [satTr_cons, satTr_nil, sv_lss, sv_leq, sv_gtr, sv_geq, sv_eql, sv_neq, sv_not, sv_beq, sv_pick, sv_add, sv_sub, sv_mul, sv_shr32, sv_shr1, sv_shl63, sv_fn, sv_eqs, E.den, List.map, K.holds] at hs
    simp only [asrOK_cons, asrOK_nil, if_true, if_false, Bool.false_eq_true, E.den] at ha
    obtain ⟨⟨h10, k10⟩, ⟨h9, k9⟩, ⟨h8, k8⟩, ⟨h7, k7⟩, ⟨h6, k6⟩, ⟨h5, k5⟩, ⟨h4, k4⟩, _⟩ := hs
    obtain ⟨a0, a1, a2, a3, a4, a5, _⟩ := ha
    refine dec_one (p := val [ρ 0, ρ 1, ρ 2, ρ 3] < q) (z := ρ 10) ?_
    simp only [val, q, List.cons.injEq, and_true]
    omega
  · simp only [satTr_cons, satTr_nil, sv_lss, sv_leq, sv_gtr, sv_geq, sv_eql, sv_neq, sv_not, sv_beq, sv_pick, sv_add, sv_sub, sv_mul, sv_shr32, sv_shr1, sv_shl63, sv_fn, sv_eqs, E.den, List.map, K.holds] at hs
    simp only [asrOK_cons, asrOK_nil, if_true, if_false, Bool.false_eq_true, E.den] at ha
    obtain ⟨⟨h9, k9⟩, ⟨h8, k8⟩, ⟨h7, k7⟩, ⟨h6, k6⟩, ⟨h5, k5⟩, ⟨h4, k4⟩, _⟩ := hs
    obtain ⟨a0, a1, a2, a3, a4, a5, _⟩ := ha
    refine dec_one (p := val [ρ 0, ρ 1, ρ 2, ρ 3] < q) (z := 0) ?_
    simp only [val, q, List.cons.injEq, and_true]
    omega
  · simp only [satTr_cons, satTr_nil, sv_lss, sv_leq, sv_gtr, sv_geq, sv_eql, sv_neq, sv_not, sv_beq, sv_pick, sv_add, sv_sub, sv_mul, sv_shr32, sv_shr1, sv_shl63, sv_fn, sv_eqs, E.den, List.map, K.holds] at hs
    simp only [asrOK_cons, asrOK_nil, if_true, if_false, Bool.false_eq_true, E.den] at ha
    obtain ⟨⟨h7, k7⟩, ⟨h6, k6⟩, ⟨h5, k5⟩, ⟨h4, k4⟩, _⟩ := hs
    obtain ⟨a0, a1, a2, a3, _⟩ := ha
    refine dec_one (p := val [ρ 0, ρ 1, ρ 2, ρ 3] < q) (z := 0) ?_
    simp only [val, q, List.cons.injEq, and_true]
    omega
  · simp only [satTr_cons, satTr_nil, sv_lss, sv_leq, sv_gtr, sv_geq, sv_eql, sv_neq, sv_not, sv_beq, sv_pick, sv_add, sv_sub, sv_mul, sv_shr32, sv_shr1, sv_shl63, sv_fn, sv_eqs, E.den, List.map, K.holds] at hs
    simp only [asrOK_cons, asrOK_nil, if_true, if_false, Bool.false_eq_true, E.den] at ha
    obtain ⟨⟨h5, k5⟩, ⟨h4, k4⟩, _⟩ := hs
    obtain ⟨a0, a1, _⟩ := ha
    refine dec_one (p := val [ρ 0, ρ 1, ρ 2, ρ 3] < q) (z := 0) ?_
    simp only [val, q, List.cons.injEq, and_true]
    omega

/-! ### fmg -/
def su_fmg : Summ := ⟨[.ptr 4], (some 0), []⟩
def t_fmg0 : CT := .leaf ⟨[(49, .i .u64, .pick (.v 37) (.v 44) (.v 34)),
    (48, .i .u64, .pick (.v 37) (.v 42) (.v 35)),
    (47, .i .u64, .pick (.v 37) (.v 40) (.v 33)),
    (46, .i .u64, .pick (.v 37) (.v 38) (.v 31)),
    (45, .bit, .fn 34 [.v 34, .c 3486998266802970665, .v 43] 1),
    (44, .i .u64, .fn 34 [.v 34, .c 3486998266802970665, .v 43] 0),
    (43, .bit, .fn 34 [.v 35, .c 13281191951274694749, .v 41] 1),
    (42, .i .u64, .fn 34 [.v 35, .c 13281191951274694749, .v 41] 0),
    (41, .bit, .fn 34 [.v 33, .c 2896914383306846353, .v 39] 1),
    (40, .i .u64, .fn 34 [.v 33, .c 2896914383306846353, .v 39] 0),
    (39, .bit, .fn 34 [.v 31, .c 4891460686036598785, .c 0] 1),
    (38, .i .u64, .fn 34 [.v 31, .c 4891460686036598785, .c 0] 0),
    (37, .bool, .not (.v 36)),
    (36, .bool, .fn 33 [.v 31, .v 33, .v 35, .v 34] 0),
    (35, .i .u64, .fn 32 [.v 28, .c 3486998266802970665, .v 26, .v 32] 1),
    (34, .i .u64, .fn 32 [.v 28, .c 3486998266802970665, .v 26, .v 32] 0),
    (33, .i .u64, .fn 32 [.v 28, .c 13281191951274694749, .v 27, .v 30] 1),
    (32, .i .u64, .fn 32 [.v 28, .c 13281191951274694749, .v 27, .v 30] 0),
    (31, .i .u64, .fn 32 [.v 28, .c 2896914383306846353, .v 25, .v 29] 1),
    (30, .i .u64, .fn 32 [.v 28, .c 2896914383306846353, .v 25, .v 29] 0),
    (29, .i .u64, .fn 31 [.v 28, .c 4891460686036598785, .v 23] 0),
    (28, .i .u64, .bin .mul .u64 (.v 23) (.c 14042775128853446655)),
    (27, .i .u64, .fn 32 [.v 20, .c 3486998266802970665, .v 18, .v 24] 1),
    (26, .i .u64, .fn 32 [.v 20, .c 3486998266802970665, .v 18, .v 24] 0),
    (25, .i .u64, .fn 32 [.v 20, .c 13281191951274694749, .v 19, .v 22] 1),
    (24, .i .u64, .fn 32 [.v 20, .c 13281191951274694749, .v 19, .v 22] 0),
    (23, .i .u64, .fn 32 [.v 20, .c 2896914383306846353, .v 17, .v 21] 1),
    (22, .i .u64, .fn 32 [.v 20, .c 2896914383306846353, .v 17, .v 21] 0),
    (21, .i .u64, .fn 31 [.v 20, .c 4891460686036598785, .v 15] 0),
    (20, .i .u64, .bin .mul .u64 (.v 15) (.c 14042775128853446655)),
    (19, .i .u64, .fn 32 [.v 12, .c 3486998266802970665, .v 10, .v 16] 1),
    (18, .i .u64, .fn 32 [.v 12, .c 3486998266802970665, .v 10, .v 16] 0),
    (17, .i .u64, .fn 32 [.v 12, .c 13281191951274694749, .v 11, .v 14] 1),
    (16, .i .u64, .fn 32 [.v 12, .c 13281191951274694749, .v 11, .v 14] 0),
    (15, .i .u64, .fn 32 [.v 12, .c 2896914383306846353, .v 9, .v 13] 1),
    (14, .i .u64, .fn 32 [.v 12, .c 2896914383306846353, .v 9, .v 13] 0),
    (13, .i .u64, .fn 31 [.v 12, .c 4891460686036598785, .v 7] 0),
    (12, .i .u64, .bin .mul .u64 (.v 7) (.c 14042775128853446655)),
    (11, .i .u64, .fn 32 [.v 4, .c 3486998266802970665, .v 3, .v 8] 1),
    (10, .i .u64, .fn 32 [.v 4, .c 3486998266802970665, .v 3, .v 8] 0),
    (9, .i .u64, .fn 32 [.v 4, .c 13281191951274694749, .v 2, .v 6] 1),
    (8, .i .u64, .fn 32 [.v 4, .c 13281191951274694749, .v 2, .v 6] 0),
    (7, .i .u64, .fn 32 [.v 4, .c 2896914383306846353, .v 1, .v 5] 1),
    (6, .i .u64, .fn 32 [.v 4, .c 2896914383306846353, .v 1, .v 5] 0),
    (5, .i .u64, .fn 31 [.v 4, .c 4891460686036598785, .v 0] 0),
    (4, .i .u64, .bin .mul .u64 (.v 0) (.c 14042775128853446655))],
    [], [.v 46, .v 47, .v 48, .v 49]⟩
theorem chk_fmg : checkFn Try.prog [(31, su_madd0), (32, su_madd2), (33, su_small), (34, addSub)] su_fmg 400 Try.f30 (fun _ => t_fmg0) = true := by kernel_rfl
theorem ok_fmg : SummOK Try.prog 30 su_fmg (Phi 30) := by
  refine summ_fn (Φ := Phi) 400 (fun _ => t_fmg0) Try.func30 (tbl_cons ok_madd0 (tbl_cons ok_madd2 (tbl_cons ok_small (tbl_cons ok_sub64 tbl_nil)))) chk_fmg ?_
  intro al hal l hl ρ hk hs ha
  have hn : su_fmg.inKinds.length = 4 := rfl
  have hr : row ρ 4 = [ρ 0, ρ 1, ρ 2, ρ 3] := rfl
  rw [hn, hr] at hk ⊢
  simp only [su_fmg, Summ.inKinds, List.flatMap_cons, List.flatMap_nil, List.replicate, List.cons_append, List.nil_append, List.append_nil, holdsAll, K.holds] at hk
  obtain ⟨b0, b1, b2, b3, _⟩ := hk
  simp only [t_fmg0, CT.leaves, List.cons_append, List.nil_append, List.mem_cons, List.not_mem_nil, or_false] at hl
  subst hl
  simp only [satTr_cons, satTr_nil, sv_lss, sv_leq, sv_gtr, sv_geq, sv_eql, sv_neq, sv_not, sv_beq, sv_pick, sv_add, sv_sub, sv_mul, sv_shr32, sv_shr1, sv_shl63, sv_fn, sv_eqs, E.den, List.map, K.holds] at hs
  simp only [asrOK_cons, asrOK_nil, if_true, if_false, Bool.false_eq_true, E.den] at ha
  obtain ⟨⟨h49, k49⟩, ⟨h48, k48⟩, ⟨h47, k47⟩, ⟨h46, k46⟩, ⟨h45, k45⟩, ⟨h44, k44⟩, ⟨h43, k43⟩, ⟨h42, k42⟩, ⟨h41, k41⟩, ⟨h40, k40⟩, ⟨h39, k39⟩, ⟨h38, k38⟩, ⟨h37, k37⟩, ⟨h36, k36⟩, ⟨h35, k35⟩, ⟨h34, k34⟩, ⟨h33, k33⟩, ⟨h32, k32⟩, ⟨h31, k31⟩, ⟨h30, k30⟩, ⟨h29, k29⟩, ⟨h28, k28⟩, ⟨h27, k27⟩, ⟨h26, k26⟩, ⟨h25, k25⟩, ⟨h24, k24⟩, ⟨h23, k23⟩, ⟨h22, k22⟩, ⟨h21, k21⟩, ⟨h20, k20⟩, ⟨h19, k19⟩, ⟨h18, k18⟩, ⟨h17, k17⟩, ⟨h16, k16⟩, ⟨h15, k15⟩, ⟨h14, k14⟩, ⟨h13, k13⟩, ⟨h12, k12⟩, ⟨h11, k11⟩, ⟨h10, k10⟩, ⟨h9, k9⟩, ⟨h8, k8⟩, ⟨h7, k7⟩, ⟨h6, k6⟩, ⟨h5, k5⟩, ⟨h4, k4⟩, _⟩ := hs
  clear ha
  have g5 : ρ 5 = (ρ 4 * 4891460686036598785 + ρ 0) / 18446744073709551616 := h5
  have g6 : ρ 6 = (ρ 4 * 2896914383306846353 + ρ 1 + ρ 5) / 18446744073709551616 := h6
  have g7 : ρ 7 = (ρ 4 * 2896914383306846353 + ρ 1 + ρ 5) % 18446744073709551616 := h7
  have g8 : ρ 8 = (ρ 4 * 13281191951274694749 + ρ 2 + ρ 6) / 18446744073709551616 := h8
  have g9 : ρ 9 = (ρ 4 * 13281191951274694749 + ρ 2 + ρ 6) % 18446744073709551616 := h9
  have g10 : ρ 10 = (ρ 4 * 3486998266802970665 + ρ 3 + ρ 8) / 18446744073709551616 := h10
  have g11 : ρ 11 = (ρ 4 * 3486998266802970665 + ρ 3 + ρ 8) % 18446744073709551616 := h11
  have g13 : ρ 13 = (ρ 12 * 4891460686036598785 + ρ 7) / 18446744073709551616 := h13
  have g14 : ρ 14 = (ρ 12 * 2896914383306846353 + ρ 9 + ρ 13) / 18446744073709551616 := h14
  have g15 : ρ 15 = (ρ 12 * 2896914383306846353 + ρ 9 + ρ 13) % 18446744073709551616 := h15
  have g16 : ρ 16 = (ρ 12 * 13281191951274694749 + ρ 11 + ρ 14) / 18446744073709551616 := h16
  have g17 : ρ 17 = (ρ 12 * 13281191951274694749 + ρ 11 + ρ 14) % 18446744073709551616 := h17
  have g18 : ρ 18 = (ρ 12 * 3486998266802970665 + ρ 10 + ρ 16) / 18446744073709551616 := h18
  have g19 : ρ 19 = (ρ 12 * 3486998266802970665 + ρ 10 + ρ 16) % 18446744073709551616 := h19
  have g21 : ρ 21 = (ρ 20 * 4891460686036598785 + ρ 15) / 18446744073709551616 := h21
  have g22 : ρ 22 = (ρ 20 * 2896914383306846353 + ρ 17 + ρ 21) / 18446744073709551616 := h22
  have g23 : ρ 23 = (ρ 20 * 2896914383306846353 + ρ 17 + ρ 21) % 18446744073709551616 := h23
  have g24 : ρ 24 = (ρ 20 * 13281191951274694749 + ρ 19 + ρ 22) / 18446744073709551616 := h24
  have g25 : ρ 25 = (ρ 20 * 13281191951274694749 + ρ 19 + ρ 22) % 18446744073709551616 := h25
  have g26 : ρ 26 = (ρ 20 * 3486998266802970665 + ρ 18 + ρ 24) / 18446744073709551616 := h26
  have g27 : ρ 27 = (ρ 20 * 3486998266802970665 + ρ 18 + ρ 24) % 18446744073709551616 := h27
  have g29 : ρ 29 = (ρ 28 * 4891460686036598785 + ρ 23) / 18446744073709551616 := h29
  have g30 : ρ 30 = (ρ 28 * 2896914383306846353 + ρ 25 + ρ 29) / 18446744073709551616 := h30
  have g31 : ρ 31 = (ρ 28 * 2896914383306846353 + ρ 25 + ρ 29) % 18446744073709551616 := h31
  have g32 : ρ 32 = (ρ 28 * 13281191951274694749 + ρ 27 + ρ 30) / 18446744073709551616 := h32
  have g33 : ρ 33 = (ρ 28 * 13281191951274694749 + ρ 27 + ρ 30) % 18446744073709551616 := h33
  have g34 : ρ 34 = (ρ 28 * 3486998266802970665 + ρ 26 + ρ 32) / 18446744073709551616 := h34
  have g35 : ρ 35 = (ρ 28 * 3486998266802970665 + ρ 26 + ρ 32) % 18446744073709551616 := h35
  have e36 : ρ 36 = b2i (decide (val [ρ 31, ρ 33, ρ 35, ρ 34] < q)) := h36
  rw [st_dec] at e36
  have r38 : ρ 38 - 18446744073709551616 * ρ 39 = ρ 31 - 4891460686036598785 - 0 := sbb k31 (by decide) (by decide) h38 h39
  have r40 : ρ 40 - 18446744073709551616 * ρ 41 = ρ 33 - 2896914383306846353 - ρ 39 := sbb k33 (by decide) k39 h40 h41
  have r42 : ρ 42 - 18446744073709551616 * ρ 43 = ρ 35 - 13281191951274694749 - ρ 41 := sbb k35 (by decide) k41 h42 h43
  have r44 : ρ 44 - 18446744073709551616 * ρ 45 = ρ 34 - 3486998266802970665 - ρ 43 := sbb k34 (by decide) k43 h44 h45
  have hqw : val [4891460686036598785, 2896914383306846353, 13281191951274694749, 3486998266802970665] = q := by kernel_rfl
  have f4 : 18446744073709551616 * ρ 5 = ρ 4 * 4891460686036598785 + ρ 0 := mont_first (k := 3723675147829272286) h4 g5 (by decide)
  have f6 : ρ 7 + 18446744073709551616 * ρ 6 = ρ 4 * 2896914383306846353 + ρ 1 + ρ 5 := mont_word g6 g7
  have f8 : ρ 9 + 18446744073709551616 * ρ 8 = ρ 4 * 13281191951274694749 + ρ 2 + ρ 6 := mont_word g8 g9
  have f10 : ρ 11 + 18446744073709551616 * ρ 10 = ρ 4 * 3486998266802970665 + ρ 3 + ρ 8 := mont_word g10 g11
  have v0 : 18446744073709551616 * val [ρ 7, ρ 9, ρ 11, ρ 10] = val [ρ 0, ρ 1, ρ 2, ρ 3] + ρ 4 * q := by rw [← hqw]; exact mont_round4 f4 f6 f8 f10
  have f12 : 18446744073709551616 * ρ 13 = ρ 12 * 4891460686036598785 + ρ 7 := mont_first (k := 3723675147829272286) h12 g13 (by decide)
  have f14 : ρ 15 + 18446744073709551616 * ρ 14 = ρ 12 * 2896914383306846353 + ρ 9 + ρ 13 := mont_word g14 g15
  have f16 : ρ 17 + 18446744073709551616 * ρ 16 = ρ 12 * 13281191951274694749 + ρ 11 + ρ 14 := mont_word g16 g17
  have f18 : ρ 19 + 18446744073709551616 * ρ 18 = ρ 12 * 3486998266802970665 + ρ 10 + ρ 16 := mont_word g18 g19
  have v1 : 18446744073709551616 * val [ρ 15, ρ 17, ρ 19, ρ 18] = val [ρ 7, ρ 9, ρ 11, ρ 10] + ρ 12 * q := by rw [← hqw]; exact mont_round4 f12 f14 f16 f18
  have f20 : 18446744073709551616 * ρ 21 = ρ 20 * 4891460686036598785 + ρ 15 := mont_first (k := 3723675147829272286) h20 g21 (by decide)
  have f22 : ρ 23 + 18446744073709551616 * ρ 22 = ρ 20 * 2896914383306846353 + ρ 17 + ρ 21 := mont_word g22 g23
  have f24 : ρ 25 + 18446744073709551616 * ρ 24 = ρ 20 * 13281191951274694749 + ρ 19 + ρ 22 := mont_word g24 g25
  have f26 : ρ 27 + 18446744073709551616 * ρ 26 = ρ 20 * 3486998266802970665 + ρ 18 + ρ 24 := mont_word g26 g27
  have v2 : 18446744073709551616 * val [ρ 23, ρ 25, ρ 27, ρ 26] = val [ρ 15, ρ 17, ρ 19, ρ 18] + ρ 20 * q := by rw [← hqw]; exact mont_round4 f20 f22 f24 f26
  have f28 : 18446744073709551616 * ρ 29 = ρ 28 * 4891460686036598785 + ρ 23 := mont_first (k := 3723675147829272286) h28 g29 (by decide)
  have f30 : ρ 31 + 18446744073709551616 * ρ 30 = ρ 28 * 2896914383306846353 + ρ 25 + ρ 29 := mont_word g30 g31
  have f32 : ρ 33 + 18446744073709551616 * ρ 32 = ρ 28 * 13281191951274694749 + ρ 27 + ρ 30 := mont_word g32 g33
  have f34 : ρ 35 + 18446744073709551616 * ρ 34 = ρ 28 * 3486998266802970665 + ρ 26 + ρ 32 := mont_word g34 g35
  have v3 : 18446744073709551616 * val [ρ 31, ρ 33, ρ 35, ρ 34] = val [ρ 23, ρ 25, ρ 27, ρ 26] + ρ 28 * q := by rw [← hqw]; exact mont_round4 f28 f30 f32 f34
  have hv : val [ρ 31, ρ 33, ρ 35, ρ 34] * big 4 = val [ρ 0, ρ 1, ρ 2, ρ 3] + val [ρ 4, ρ 12, ρ 20, ρ 28] * q := mont_all4 v0 v1 v2 v3
  have hd : val [ρ 38, ρ 40, ρ 42, ρ 44] - ρ 45 * big 4 = val [ρ 31, ρ 33, ρ 35, ρ 34] - q := by rw [← hqw]; exact sub_chain4 r38 r40 r42 r44
  change wds 4 (redM q ri (val [ρ 0, ρ 1, ρ 2, ρ 3])) = [ρ 46, ρ 47, ρ 48, ρ 49]
  refine fm_done (n := 4) (X := val [ρ 0, ρ 1, ρ 2, ρ 3]) (K := val [ρ 4, ρ 12, ρ 20, ρ 28]) (b := ρ 36) (nb := ρ 37) (d := ρ 45) (S := [ρ 31, ρ 33, ρ 35, ρ 34]) (D := [ρ 38, ρ 40, ρ 42, ρ 44]) q_pos ri_eq (val_lt (u64s_cons b0 (u64s_cons b1 (u64s_cons b2 (u64s_cons b3 u64s_nil)))) rfl) (val_lt (u64s_cons k4 (u64s_cons k12 (u64s_cons k20 (u64s_cons k28 u64s_nil)))) rfl) (u64s_cons k31 (u64s_cons k33 (u64s_cons k35 (u64s_cons k34 u64s_nil)))) rfl (u64s_cons k38 (u64s_cons k40 (u64s_cons k42 (u64s_cons k44 u64s_nil)))) rfl hv e36 h37 hd ?_
  by_cases hz : ρ 37 = 0
  · left; refine ⟨hz, ?_⟩; simp only [hz, true_and, ne_eq, not_true_eq_false, false_and, or_false] at h46 h47 h48 h49; rw [h46, h47, h48, h49]
  · right; refine ⟨hz, ?_⟩; simp only [hz, false_and, ne_eq, not_false_eq_true, true_and, false_or] at h46 h47 h48 h49; rw [h46, h47, h48, h49]

/-! ### fm -/
def su_fm : Summ := ⟨[.ptr 4], (some 0), []⟩
def t_fm0 : CT := .leaf ⟨[(7, .i .u64, .fn 30 [.v 0, .v 1, .v 2, .v 3] 3),
    (6, .i .u64, .fn 30 [.v 0, .v 1, .v 2, .v 3] 2),
    (5, .i .u64, .fn 30 [.v 0, .v 1, .v 2, .v 3] 1),
    (4, .i .u64, .fn 30 [.v 0, .v 1, .v 2, .v 3] 0)],
    [], [.v 4, .v 5, .v 6, .v 7]⟩
theorem chk_fm : checkFn Try.prog [(30, su_fmg)] su_fm 400 Try.f25 (fun _ => t_fm0) = true := by kernel_rfl
theorem ok_fm : SummOK Try.prog 25 su_fm (Phi 25) := by
  refine summ_fn (Φ := Phi) 400 (fun _ => t_fm0) Try.func25 (tbl_cons ok_fmg tbl_nil) chk_fm ?_
  intro al hal l hl ρ hk hs ha
  have hn : su_fm.inKinds.length = 4 := rfl
  have hr : row ρ 4 = [ρ 0, ρ 1, ρ 2, ρ 3] := rfl
  rw [hn, hr] at hk ⊢
  simp only [su_fm, Summ.inKinds, List.flatMap_cons, List.flatMap_nil, List.replicate, List.cons_append, List.nil_append, List.append_nil, holdsAll, K.holds] at hk
  obtain ⟨b0, b1, b2, b3, _⟩ := hk
  simp only [t_fm0, CT.leaves, List.cons_append, List.nil_append, List.mem_cons, List.not_mem_nil, or_false] at hl
  subst hl
  simp only [satTr_cons, satTr_nil, sv_lss, sv_leq, sv_gtr, sv_geq, sv_eql, sv_neq, sv_not, sv_beq, sv_pick, sv_add, sv_sub, sv_mul, sv_shr32, sv_shr1, sv_shl63, sv_fn, sv_eqs, E.den, List.map, K.holds] at hs
  simp only [asrOK_cons, asrOK_nil, if_true, if_false, Bool.false_eq_true, E.den] at ha
  obtain ⟨⟨h7, k7⟩, ⟨h6, k6⟩, ⟨h5, k5⟩, ⟨h4, k4⟩, _⟩ := hs
  clear ha
  have g4 : [ρ 4, ρ 5, ρ 6, ρ 7] = wds 4 (redM q ri (val [ρ 0, ρ 1, ρ 2, ρ 3])) := get4 rfl h4 h5 h6 h7
  exact g4.symm

/-! ### fmE -/
def su_fmE : Summ := ⟨[.ptr 4], (some 0), [.arg 0]⟩
def t_fmE0 : CT := .leaf ⟨[(7, .i .u64, .fn 25 [.v 0, .v 1, .v 2, .v 3] 3),
    (6, .i .u64, .fn 25 [.v 0, .v 1, .v 2, .v 3] 2),
    (5, .i .u64, .fn 25 [.v 0, .v 1, .v 2, .v 3] 1),
    (4, .i .u64, .fn 25 [.v 0, .v 1, .v 2, .v 3] 0)],
    [], [.v 4, .v 5, .v 6, .v 7]⟩
theorem chk_fmE : checkFn Try.prog [(25, su_fm)] su_fmE 400 Try.f27 (fun _ => t_fmE0) = true := by kernel_rfl
theorem ok_fmE : SummOK Try.prog 27 su_fmE (Phi 27) := by
  refine summ_fn (Φ := Phi) 400 (fun _ => t_fmE0) Try.func27 (tbl_cons ok_fm tbl_nil) chk_fmE ?_
  intro al hal l hl ρ hk hs ha
  have hn : su_fmE.inKinds.length = 4 := rfl
  have hr : row ρ 4 = [ρ 0, ρ 1, ρ 2, ρ 3] := rfl
  rw [hn, hr] at hk ⊢
  simp only [su_fmE, Summ.inKinds, List.flatMap_cons, List.flatMap_nil, List.replicate, List.cons_append, List.nil_append, List.append_nil, holdsAll, K.holds] at hk
  obtain ⟨b0, b1, b2, b3, _⟩ := hk
  simp only [t_fmE0, CT.leaves, List.cons_append, List.nil_append, List.mem_cons, List.not_mem_nil, or_false] at hl
  subst hl
  simp only [satTr_cons, satTr_nil, sv_lss, sv_leq, sv_gtr, sv_geq, sv_eql, sv_neq, sv_not, sv_beq, sv_pick, sv_add, sv_sub, sv_mul, sv_shr32, sv_shr1, sv_shl63, sv_fn, sv_eqs, E.den, List.map, K.holds] at hs
  simp only [asrOK_cons, asrOK_nil, if_true, if_false, Bool.false_eq_true, E.den] at ha
  obtain ⟨⟨h7, k7⟩, ⟨h6, k6⟩, ⟨h5, k5⟩, ⟨h4, k4⟩, _⟩ := hs
  clear ha
  have g4 : [ρ 4, ρ 5, ρ 6, ρ 7] = wds 4 (redM q ri (val [ρ 0, ρ 1, ρ 2, ρ 3])) := get4 rfl h4 h5 h6 h7
  exact g4.symm

/-! ### fits -/
def su_fits : Summ := ⟨[.ptr 4], none, [.sc .bool]⟩
def t_fits0 : CT := .leaf ⟨[(6, .bool, .cmp .eql (.v 5) (.c 0)),
    (5, .i .u64, .bin .or .u64 (.v 4) (.v 1)),
    (4, .i .u64, .bin .or .u64 (.v 3) (.v 2))],
    [], [.v 6]⟩
theorem chk_fits : checkFn Try.prog [] su_fits 400 Try.f28 (fun _ => t_fits0) = true := by kernel_rfl
theorem ok_fits : SummOK Try.prog 28 su_fits (Phi 28) := by
  refine summ_fn (Φ := Phi) 400 (fun _ => t_fits0) Try.func28 tbl_nil chk_fits ?_
  intro al hal l hl ρ hk hs ha
  have hn : su_fits.inKinds.length = 4 := rfl
  have hr : row ρ 4 = [ρ 0, ρ 1, ρ 2, ρ 3] := rfl
  rw [hn, hr] at hk ⊢
  simp only [su_fits, Summ.inKinds, List.flatMap_cons, List.flatMap_nil, List.replicate, List.cons_append, List.nil_append, List.append_nil, holdsAll, K.holds] at hk
  obtain ⟨b0, b1, b2, b3, _⟩ := hk
  simp only [t_fits0, CT.leaves, List.cons_append, List.nil_append, List.mem_cons, List.not_mem_nil, or_false] at hl
  subst hl
  simp only [satTr_cons, satTr_nil, sv_lss, sv_leq, sv_gtr, sv_geq, sv_eql, sv_neq, sv_not, sv_beq, sv_pick, sv_add, sv_sub, sv_mul, sv_shr32, sv_shr1, sv_shl63, sv_fn, sv_eqs, E.den, List.map, K.holds] at hs
  simp only [asrOK_cons, asrOK_nil, if_true, if_false, Bool.false_eq_true, E.den] at ha
  obtain ⟨⟨h6, k6⟩, ⟨h5, k5⟩, ⟨h4, k4⟩, _⟩ := hs
  clear ha
  have z4 : ρ 4 = 0 ↔ ρ 3 = 0 ∧ ρ 2 = 0 := or_zero b3 b2 h4
  have z5 : ρ 5 = 0 ↔ ρ 4 = 0 ∧ ρ 1 = 0 := or_zero k4 b1 h5
  have key : ρ 5 = 0 ↔ (ρ 1 = 0 ∧ ρ 2 = 0 ∧ ρ 3 = 0) := by
    simp only [z5, z4]
    exact ⟨fun h => ⟨h.2, h.1.2, h.1.1⟩, fun h => ⟨⟨h.2.2, h.2.1⟩, h.1⟩⟩
  refine dec_one (p := val [ρ 0, ρ 1, ρ 2, ρ 3] < 18446744073709551616) (z := ρ 6) ?_
  have key2 : val [ρ 0, ρ 1, ρ 2, ρ 3] < 18446744073709551616 ↔ (ρ 1 = 0 ∧ ρ 2 = 0 ∧ ρ 3 = 0) := by
    clear h4 z4 h5 z5 h6 key
    simp only [val]
    constructor
    · intro h; refine ⟨?_, ?_, ?_⟩ <;> omega
    · intro h; obtain ⟨y1, y2, y3⟩ := h; omega
  rw [key2, ← key]
  exact h6

/-! ### isU -/
def su_isU : Summ := ⟨[.ptr 4], none, [.sc .bool]⟩
def t_isU0 : CT := .leaf ⟨[(8, .bool, .fn 28 [.v 4, .v 5, .v 6, .v 7] 0),
    (7, .i .u64, .fn 27 [.v 0, .v 1, .v 2, .v 3] 3),
    (6, .i .u64, .fn 27 [.v 0, .v 1, .v 2, .v 3] 2),
    (5, .i .u64, .fn 27 [.v 0, .v 1, .v 2, .v 3] 1),
    (4, .i .u64, .fn 27 [.v 0, .v 1, .v 2, .v 3] 0)],
    [], [.v 8]⟩
theorem chk_isU : checkFn Try.prog [(27, su_fmE), (28, su_fits)] su_isU 400 Try.f21 (fun _ => t_isU0) = true := by kernel_rfl
theorem ok_isU : SummOK Try.prog 21 su_isU (Phi 21) := by
  refine summ_fn (Φ := Phi) 400 (fun _ => t_isU0) Try.func21 (tbl_cons ok_fmE (tbl_cons ok_fits tbl_nil)) chk_isU ?_
  intro al hal l hl ρ hk hs ha
  have hn : su_isU.inKinds.length = 4 := rfl
  have hr : row ρ 4 = [ρ 0, ρ 1, ρ 2, ρ 3] := rfl
  rw [hn, hr] at hk ⊢
  simp only [su_isU, Summ.inKinds, List.flatMap_cons, List.flatMap_nil, List.replicate, List.cons_append, List.nil_append, List.append_nil, holdsAll, K.holds] at hk
  obtain ⟨b0, b1, b2, b3, _⟩ := hk
  simp only [t_isU0, CT.leaves, List.cons_append, List.nil_append, List.mem_cons, List.not_mem_nil, or_false] at hl
  subst hl
  simp only [satTr_cons, satTr_nil, sv_lss, sv_leq, sv_gtr, sv_geq, sv_eql, sv_neq, sv_not, sv_beq, sv_pick, sv_add, sv_sub, sv_mul, sv_shr32, sv_shr1, sv_shl63, sv_fn, sv_eqs, E.den, List.map, K.holds] at hs
  simp only [asrOK_cons, asrOK_nil, if_true, if_false, Bool.false_eq_true, E.den] at ha
  obtain ⟨⟨h8, k8⟩, ⟨h7, k7⟩, ⟨h6, k6⟩, ⟨h5, k5⟩, ⟨h4, k4⟩, _⟩ := hs
  clear ha
  have g4 : [ρ 4, ρ 5, ρ 6, ρ 7] = wds 4 (redM q ri (val [ρ 0, ρ 1, ρ 2, ρ 3])) := get4 rfl h4 h5 h6 h7
  have e8 : ρ 8 = b2i (decide (val [ρ 4, ρ 5, ρ 6, ρ 7] < 18446744073709551616)) := h8
  rw [st_dec] at e8
  have hv : val [ρ 4, ρ 5, ρ 6, ρ 7] = redM q ri (val [ρ 0, ρ 1, ρ 2, ρ 3]) := by rw [g4]; exact val_wds_of (red_lt q_pos).1 (Int.lt_trans (red_lt q_pos).2 q_lt)
  rw [hv] at e8
  exact dec_one (p := redM q ri (val [ρ 0, ρ 1, ρ 2, ρ 3]) < 18446744073709551616) e8

/-! ### iIsU -/
def su_iIsU : Summ := ⟨[.agg 4], none, [.sc .bool]⟩
def t_iIsU0 : CT := .leaf ⟨[(4, .bool, .fn 21 [.v 0, .v 1, .v 2, .v 3] 0)],
    [], [.v 4]⟩
theorem chk_iIsU : checkFn Try.prog [(21, su_isU)] su_iIsU 400 Try.f13 (fun _ => t_iIsU0) = true := by kernel_rfl
theorem ok_iIsU : SummOK Try.prog 13 su_iIsU (Phi 13) := by
  refine summ_fn (Φ := Phi) 400 (fun _ => t_iIsU0) Try.func13 (tbl_cons ok_isU tbl_nil) chk_iIsU ?_
  intro al hal l hl ρ hk hs ha
  have hn : su_iIsU.inKinds.length = 4 := rfl
  have hr : row ρ 4 = [ρ 0, ρ 1, ρ 2, ρ 3] := rfl
  rw [hn, hr] at hk ⊢
  simp only [su_iIsU, Summ.inKinds, List.flatMap_cons, List.flatMap_nil, List.replicate, List.cons_append, List.nil_append, List.append_nil, holdsAll, K.holds] at hk
  obtain ⟨b0, b1, b2, b3, _⟩ := hk
  simp only [t_iIsU0, CT.leaves, List.cons_append, List.nil_append, List.mem_cons, List.not_mem_nil, or_false] at hl
  subst hl
  simp only [satTr_cons, satTr_nil, sv_lss, sv_leq, sv_gtr, sv_geq, sv_eql, sv_neq, sv_not, sv_beq, sv_pick, sv_add, sv_sub, sv_mul, sv_shr32, sv_shr1, sv_shl63, sv_fn, sv_eqs, E.den, List.map, K.holds] at hs
  simp only [asrOK_cons, asrOK_nil, if_true, if_false, Bool.false_eq_true, E.den] at ha
  obtain ⟨⟨h4, k4⟩, _⟩ := hs
  clear ha
  have e4 : ρ 4 = b2i (decide (redM q ri (val [ρ 0, ρ 1, ρ 2, ρ 3]) < 18446744073709551616)) := h4
  rw [st_dec] at e4
  exact congrArg (fun z => [z]) h4.symm

/-! ### Bits -/
def su_Bits : Summ := ⟨[.ptr 4], none, [.agg 4]⟩
def t_Bits0 : CT := .leaf ⟨[(7, .i .u64, .fn 25 [.v 0, .v 1, .v 2, .v 3] 3),
    (6, .i .u64, .fn 25 [.v 0, .v 1, .v 2, .v 3] 2),
    (5, .i .u64, .fn 25 [.v 0, .v 1, .v 2, .v 3] 1),
    (4, .i .u64, .fn 25 [.v 0, .v 1, .v 2, .v 3] 0)],
    [], [.v 4, .v 5, .v 6, .v 7]⟩
theorem chk_Bits : checkFn Try.prog [(25, su_fm)] su_Bits 400 Try.f17 (fun _ => t_Bits0) = true := by kernel_rfl
theorem ok_Bits : SummOK Try.prog 17 su_Bits (Phi 17) := by
  refine summ_fn (Φ := Phi) 400 (fun _ => t_Bits0) Try.func17 (tbl_cons ok_fm tbl_nil) chk_Bits ?_
  intro al hal l hl ρ hk hs ha
  have hn : su_Bits.inKinds.length = 4 := rfl
  have hr : row ρ 4 = [ρ 0, ρ 1, ρ 2, ρ 3] := rfl
  rw [hn, hr] at hk ⊢
  simp only [su_Bits, Summ.inKinds, List.flatMap_cons, List.flatMap_nil, List.replicate, List.cons_append, List.nil_append, List.append_nil, holdsAll, K.holds] at hk
  obtain ⟨b0, b1, b2, b3, _⟩ := hk
  simp only [t_Bits0, CT.leaves, List.cons_append, List.nil_append, List.mem_cons, List.not_mem_nil, or_false] at hl
  subst hl
  simp only [satTr_cons, satTr_nil, sv_lss, sv_leq, sv_gtr, sv_geq, sv_eql, sv_neq, sv_not, sv_beq, sv_pick, sv_add, sv_sub, sv_mul, sv_shr32, sv_shr1, sv_shl63, sv_fn, sv_eqs, E.den, List.map, K.holds] at hs
  simp only [asrOK_cons, asrOK_nil, if_true, if_false, Bool.false_eq_true, E.den] at ha
  obtain ⟨⟨h7, k7⟩, ⟨h6, k6⟩, ⟨h5, k5⟩, ⟨h4, k4⟩, _⟩ := hs
  clear ha
  have g4 : [ρ 4, ρ 5, ρ 6, ρ 7] = wds 4 (redM q ri (val [ρ 0, ρ 1, ρ 2, ρ 3])) := get4 rfl h4 h5 h6 h7
  exact g4.symm

/-! ### u64 -/
def su_u64 : Summ := ⟨[.ptr 4], none, [.sc (.i .u64)]⟩
def t_u640 : CT := .leaf ⟨[(7, .i .u64, .fn 17 [.v 0, .v 1, .v 2, .v 3] 3),
    (6, .i .u64, .fn 17 [.v 0, .v 1, .v 2, .v 3] 2),
    (5, .i .u64, .fn 17 [.v 0, .v 1, .v 2, .v 3] 1),
    (4, .i .u64, .fn 17 [.v 0, .v 1, .v 2, .v 3] 0)],
    [], [.v 4]⟩
theorem chk_u64 : checkFn Try.prog [(17, su_Bits)] su_u64 400 Try.f22 (fun _ => t_u640) = true := by kernel_rfl
theorem ok_u64 : SummOK Try.prog 22 su_u64 (Phi 22) := by
  refine summ_fn (Φ := Phi) 400 (fun _ => t_u640) Try.func22 (tbl_cons ok_Bits tbl_nil) chk_u64 ?_
  intro al hal l hl ρ hk hs ha
  have hn : su_u64.inKinds.length = 4 := rfl
  have hr : row ρ 4 = [ρ 0, ρ 1, ρ 2, ρ 3] := rfl
  rw [hn, hr] at hk ⊢
  simp only [su_u64, Summ.inKinds, List.flatMap_cons, List.flatMap_nil, List.replicate, List.cons_append, List.nil_append, List.append_nil, holdsAll, K.holds] at hk
  obtain ⟨b0, b1, b2, b3, _⟩ := hk
  simp only [t_u640, CT.leaves, List.cons_append, List.nil_append, List.mem_cons, List.not_mem_nil, or_false] at hl
  subst hl
  simp only [satTr_cons, satTr_nil, sv_lss, sv_leq, sv_gtr, sv_geq, sv_eql, sv_neq, sv_not, sv_beq, sv_pick, sv_add, sv_sub, sv_mul, sv_shr32, sv_shr1, sv_shl63, sv_fn, sv_eqs, E.den, List.map, K.holds] at hs
  simp only [asrOK_cons, asrOK_nil, if_true, if_false, Bool.false_eq_true, E.den] at ha
  obtain ⟨⟨h7, k7⟩, ⟨h6, k6⟩, ⟨h5, k5⟩, ⟨h4, k4⟩, _⟩ := hs
  clear ha
  have g4 : [ρ 4, ρ 5, ρ 6, ρ 7] = wds 4 (redM q ri (val [ρ 0, ρ 1, ρ 2, ρ 3])) := get4 rfl h4 h5 h6 h7
  exact congrArg (fun l => [l.getD 0 0]) g4.symm

/-! ### iU64 -/
def su_iU64 : Summ := ⟨[.agg 4], none, [.sc (.i .u64)]⟩
def t_iU640 : CT := .leaf ⟨[(4, .i .u64, .fn 22 [.v 0, .v 1, .v 2, .v 3] 0)],
    [], [.v 4]⟩
theorem chk_iU64 : checkFn Try.prog [(22, su_u64)] su_iU64 400 Try.f14 (fun _ => t_iU640) = true := by kernel_rfl
theorem ok_iU64 : SummOK Try.prog 14 su_iU64 (Phi 14) := by
  refine summ_fn (Φ := Phi) 400 (fun _ => t_iU640) Try.func14 (tbl_cons ok_u64 tbl_nil) chk_iU64 ?_
  intro al hal l hl ρ hk hs ha
  have hn : su_iU64.inKinds.length = 4 := rfl
  have hr : row ρ 4 = [ρ 0, ρ 1, ρ 2, ρ 3] := rfl
  rw [hn, hr] at hk ⊢
  simp only [su_iU64, Summ.inKinds, List.flatMap_cons, List.flatMap_nil, List.replicate, List.cons_append, List.nil_append, List.append_nil, holdsAll, K.holds] at hk
  obtain ⟨b0, b1, b2, b3, _⟩ := hk
  simp only [t_iU640, CT.leaves, List.cons_append, List.nil_append, List.mem_cons, List.not_mem_nil, or_false] at hl
  subst hl
  simp only [satTr_cons, satTr_nil, sv_lss, sv_leq, sv_gtr, sv_geq, sv_eql, sv_neq, sv_not, sv_beq, sv_pick, sv_add, sv_sub, sv_mul, sv_shr32, sv_shr1, sv_shl63, sv_fn, sv_eqs, E.den, List.map, K.holds] at hs
  simp only [asrOK_cons, asrOK_nil, if_true, if_false, Bool.false_eq_true, E.den] at ha
  obtain ⟨⟨h4, k4⟩, _⟩ := hs
  clear ha
  have g4 : ρ 4 = redM q ri (val [ρ 0, ρ 1, ρ 2, ρ 3]) % 18446744073709551616 := h4
  exact congrArg (fun z => [z]) h4.symm

/-! ### less -/
def su_less : Summ := ⟨[.slc 4, .slc 4], none, [.sc .bool]⟩
def t_less0 : CT := .node (.v 8)
  (.leaf ⟨[(9, .bool, .cmp .lss (.v 3) (.v 7)),
    (8, .bool, .cmp .neq (.v 3) (.v 7))],
    [(.v 8, true)], [.v 9]⟩)
  (.node (.v 9)
  (.leaf ⟨[(10, .bool, .cmp .lss (.v 2) (.v 6)),
    (9, .bool, .cmp .neq (.v 2) (.v 6)),
    (8, .bool, .cmp .neq (.v 3) (.v 7))],
    [(.v 9, true), (.v 8, false)], [.v 10]⟩)
  (.node (.v 10)
  (.leaf ⟨[(11, .bool, .cmp .lss (.v 1) (.v 5)),
    (10, .bool, .cmp .neq (.v 1) (.v 5)),
    (9, .bool, .cmp .neq (.v 2) (.v 6)),
    (8, .bool, .cmp .neq (.v 3) (.v 7))],
    [(.v 10, true), (.v 9, false), (.v 8, false)], [.v 11]⟩)
  (.node (.v 11)
  (.leaf ⟨[(12, .bool, .cmp .lss (.v 0) (.v 4)),
    (11, .bool, .cmp .neq (.v 0) (.v 4)),
    (10, .bool, .cmp .neq (.v 1) (.v 5)),
    (9, .bool, .cmp .neq (.v 2) (.v 6)),
    (8, .bool, .cmp .neq (.v 3) (.v 7))],
    [(.v 11, true), (.v 10, false), (.v 9, false), (.v 8, false)], [.v 12]⟩)
  (.leaf ⟨[(11, .bool, .cmp .neq (.v 0) (.v 4)),
    (10, .bool, .cmp .neq (.v 1) (.v 5)),
    (9, .bool, .cmp .neq (.v 2) (.v 6)),
    (8, .bool, .cmp .neq (.v 3) (.v 7))],
    [(.v 11, false), (.v 10, false), (.v 9, false), (.v 8, false)], [.c 0]⟩))))
theorem chk_less : checkFn Try.prog [] su_less 400 Try.f6 (fun _ => t_less0) = true := by kernel_rfl
theorem ok_less : SummOK Try.prog 6 su_less (Phi 6) := by
  refine summ_fn (Φ := Phi) 400 (fun _ => t_less0) Try.func6 tbl_nil chk_less ?_
  intro al hal l hl ρ hk hs ha
  have hn : su_less.inKinds.length = 8 := rfl
  have hr : row ρ 8 = [ρ 0, ρ 1, ρ 2, ρ 3, ρ 4, ρ 5, ρ 6, ρ 7] := rfl
  rw [hn, hr] at hk ⊢
  simp only [su_less, Summ.inKinds, List.flatMap_cons, List.flatMap_nil, List.replicate, List.cons_append, List.nil_append, List.append_nil, holdsAll, K.holds] at hk
  obtain ⟨b0, b1, b2, b3, b4, b5, b6, b7, _⟩ := hk
  simp only [t_less0, CT.leaves, List.cons_append, List.nil_append, List.mem_cons, List.not_mem_nil, or_false] at hl
  rcases hl with rfl | rfl | rfl | rfl | rfl
  · simp only [satTr_cons, satTr_nil, sv_lss, sv_leq, sv_gtr, sv_geq, sv_eql, sv_neq, sv_not, sv_beq, sv_pick, sv_add, sv_sub, sv_mul, sv_shr32, sv_shr1, sv_shl63, sv_fn, sv_eqs, E.den, List.map, K.holds] at hs
    simp only [asrOK_cons, asrOK_nil, if_true, if_false, Bool.false_eq_true, E.den] at ha
    obtain ⟨⟨h9, k9⟩, ⟨h8, k8⟩, _⟩ := hs
    obtain ⟨a0, _⟩ := ha
    refine dec_one (p := val [ρ 0, ρ 1, ρ 2, ρ 3] < val [ρ 4, ρ 5, ρ 6, ρ 7]) (z := ρ 9) ?_
    simp only [val, q, List.cons.injEq, and_true]
    omega
  · simp only [satTr_cons, satTr_nil, sv_lss, sv_leq, sv_gtr, sv_geq, sv_eql, sv_neq, sv_not, sv_beq, sv_pick, sv_add, sv_sub, sv_mul, sv_shr32, sv_shr1, sv_shl63, sv_fn, sv_eqs, E.den, List.map, K.holds] at hs
    simp only [asrOK_cons, asrOK_nil, if_true, if_false, Bool.false_eq_true, E.den] at ha
    obtain ⟨⟨h10, k10⟩, ⟨h9, k9⟩, ⟨h8, k8⟩, _⟩ := hs
    obtain ⟨a0, a1, _⟩ := ha
    refine dec_one (p := val [ρ 0, ρ 1, ρ 2, ρ 3] < val [ρ 4, ρ 5, ρ 6, ρ 7]) (z := ρ 10) ?_
    simp only [val, q, List.cons.injEq, and_true]
    omega
  · simp only [satTr_cons, satTr_nil, sv_lss, sv_leq, sv_gtr, sv_geq, sv_eql, sv_neq, sv_not, sv_beq, sv_pick, sv_add, sv_sub, sv_mul, sv_shr32, sv_shr1, sv_shl63, sv_fn, sv_eqs, E.den, List.map, K.holds] at hs
    simp only [asrOK_cons, asrOK_nil, if_true, if_false, Bool.false_eq_true, E.den] at ha
    obtain ⟨⟨h11, k11⟩, ⟨h10, k10⟩, ⟨h9, k9⟩, ⟨h8, k8⟩, _⟩ := hs
    obtain ⟨a0, a1, a2, _⟩ := ha
    refine dec_one (p := val [ρ 0, ρ 1, ρ 2, ρ 3] < val [ρ 4, ρ 5, ρ 6, ρ 7]) (z := ρ 11) ?_
    simp only [val, q, List.cons.injEq, and_true]
    omega
  · simp only [satTr_cons, satTr_nil, sv_lss, sv_leq, sv_gtr, sv_geq, sv_eql, sv_neq, sv_not, sv_beq, sv_pick, sv_add, sv_sub, sv_mul, sv_shr32, sv_shr1, sv_shl63, sv_fn, sv_eqs, E.den, List.map, K.holds] at hs
    simp only [asrOK_cons, asrOK_nil, if_true, if_false, Bool.false_eq_true, E.den] at ha
    obtain ⟨⟨h12, k12⟩, ⟨h11, k11⟩, ⟨h10, k10⟩, ⟨h9, k9⟩, ⟨h8, k8⟩, _⟩ := hs
    obtain ⟨a0, a1, a2, a3, _⟩ := ha
    refine dec_one (p := val [ρ 0, ρ 1, ρ 2, ρ 3] < val [ρ 4, ρ 5, ρ 6, ρ 7]) (z := ρ 12) ?_
    simp only [val, q, List.cons.injEq, and_true]
    omega
  · simp only [satTr_cons, satTr_nil, sv_lss, sv_leq, sv_gtr, sv_geq, sv_eql, sv_neq, sv_not, sv_beq, sv_pick, sv_add, sv_sub, sv_mul, sv_shr32, sv_shr1, sv_shl63, sv_fn, sv_eqs, E.den, List.map, K.holds] at hs
    simp only [asrOK_cons, asrOK_nil, if_true, if_false, Bool.false_eq_true, E.den] at ha
    obtain ⟨⟨h11, k11⟩, ⟨h10, k10⟩, ⟨h9, k9⟩, ⟨h8, k8⟩, _⟩ := hs
    obtain ⟨a0, a1, a2, a3, _⟩ := ha
    refine dec_one (p := val [ρ 0, ρ 1, ρ 2, ρ 3] < val [ρ 4, ρ 5, ρ 6, ρ 7]) (z := 0) ?_
    simp only [val, q, List.cons.injEq, and_true]
    omega

/-! ### prime -/
def su_prime : Summ := ⟨[], none, [.slc 4]⟩
def t_prime0 : CT := .leaf ⟨[],
    [], [.c 4891460686036598785, .c 2896914383306846353, .c 13281191951274694749, .c 3486998266802970665]⟩
theorem chk_prime : checkFn Try.prog [] su_prime 400 Try.f7 (fun _ => t_prime0) = true := by kernel_rfl
theorem ok_prime : SummOK Try.prog 7 su_prime (Phi 7) := by
  refine summ_fn (Φ := Phi) 400 (fun _ => t_prime0) Try.func7 tbl_nil chk_prime ?_
  intro al hal l hl ρ hk hs ha
  have hn : su_prime.inKinds.length = 0 := rfl
  have hr : row ρ 0 = [] := rfl
  rw [hn, hr] at hk ⊢
  simp only [su_prime, Summ.inKinds, List.flatMap_cons, List.flatMap_nil, List.replicate, List.cons_append, List.nil_append, List.append_nil, holdsAll, K.holds] at hk
  simp only [t_prime0, CT.leaves, List.cons_append, List.nil_append, List.mem_cons, List.not_mem_nil, or_false] at hl
  subst hl
  simp only [satTr_cons, satTr_nil, sv_lss, sv_leq, sv_gtr, sv_geq, sv_eql, sv_neq, sv_not, sv_beq, sv_pick, sv_add, sv_sub, sv_mul, sv_shr32, sv_shr1, sv_shl63, sv_fn, sv_eqs, E.den, List.map, K.holds] at hs
  simp only [asrOK_cons, asrOK_nil, if_true, if_false, Bool.false_eq_true, E.den] at ha
  clear hs
  clear ha
  change wds 4 q = [4891460686036598785, 2896914383306846353, 13281191951274694749, 3486998266802970665]
  kernel_rfl

/-! ### plus -/
def su_plus : Summ := ⟨[.slc 4, .slc 4], none, [.slc 4, .sc .bool]⟩
def t_plus0 : CT := .leaf ⟨[(32, .bool, .cmp .eql (.v 31) (.c 1)),
    (31, .i .u64, .pick (.v 30) (.c 1) (.c 0)),
    (30, .bool, .pick (.v 27) (.c 1) (.v 29)),
    (29, .bool, .cmp .lss (.v 28) (.v 26)),
    (28, .i .u64, .bin .add .u64 (.v 26) (.v 7)),
    (27, .bool, .cmp .lss (.v 26) (.v 25)),
    (26, .i .u64, .bin .add .u64 (.v 3) (.v 25)),
    (25, .i .u64, .pick (.v 24) (.c 1) (.c 0)),
    (24, .bool, .pick (.v 21) (.c 1) (.v 23)),
    (23, .bool, .cmp .lss (.v 22) (.v 20)),
    (22, .i .u64, .bin .add .u64 (.v 20) (.v 6)),
    (21, .bool, .cmp .lss (.v 20) (.v 19)),
    (20, .i .u64, .bin .add .u64 (.v 2) (.v 19)),
    (19, .i .u64, .pick (.v 18) (.c 1) (.c 0)),
    (18, .bool, .pick (.v 15) (.c 1) (.v 17)),
    (17, .bool, .cmp .lss (.v 16) (.v 14)),
    (16, .i .u64, .bin .add .u64 (.v 14) (.v 5)),
    (15, .bool, .cmp .lss (.v 14) (.v 13)),
    (14, .i .u64, .bin .add .u64 (.v 1) (.v 13)),
    (13, .i .u64, .pick (.v 12) (.c 1) (.c 0)),
    (12, .bool, .pick (.v 9) (.c 1) (.v 11)),
    (11, .bool, .cmp .lss (.v 10) (.v 8)),
    (10, .i .u64, .bin .add .u64 (.v 8) (.v 4)),
    (9, .bool, .cmp .lss (.v 8) (.c 0)),
    (8, .i .u64, .bin .add .u64 (.v 0) (.c 0))],
    [], [.v 10, .v 16, .v 22, .v 28, .v 32]⟩
theorem chk_plus : checkFn Try.prog [] su_plus 400 Try.f19 (fun _ => t_plus0) = true := by kernel_rfl
theorem ok_plus : SummOK Try.prog 19 su_plus (Phi 19) := by
  refine summ_fn (Φ := Phi) 400 (fun _ => t_plus0) Try.func19 tbl_nil chk_plus ?_
  intro al hal l hl ρ hk hs ha
  have hn : su_plus.inKinds.length = 8 := rfl
  have hr : row ρ 8 = [ρ 0, ρ 1, ρ 2, ρ 3, ρ 4, ρ 5, ρ 6, ρ 7] := rfl
  rw [hn, hr] at hk ⊢
  simp only [su_plus, Summ.inKinds, List.flatMap_cons, List.flatMap_nil, List.replicate, List.cons_append, List.nil_append, List.append_nil, holdsAll, K.holds] at hk
  obtain ⟨b0, b1, b2, b3, b4, b5, b6, b7, _⟩ := hk
  simp only [t_plus0, CT.leaves, List.cons_append, List.nil_append, List.mem_cons, List.not_mem_nil, or_false] at hl
  subst hl
  simp only [satTr_cons, satTr_nil, sv_lss, sv_leq, sv_gtr, sv_geq, sv_eql, sv_neq, sv_not, sv_beq, sv_pick, sv_add, sv_sub, sv_mul, sv_shr32, sv_shr1, sv_shl63, sv_fn, sv_eqs, E.den, List.map, K.holds] at hs
  simp only [asrOK_cons, asrOK_nil, if_true, if_false, Bool.false_eq_true, E.den] at ha
  obtain ⟨⟨h32, k32⟩, ⟨h31, k31⟩, ⟨h30, k30⟩, ⟨h29, k29⟩, ⟨h28, k28⟩, ⟨h27, k27⟩, ⟨h26, k26⟩, ⟨h25, k25⟩, ⟨h24, k24⟩, ⟨h23, k23⟩, ⟨h22, k22⟩, ⟨h21, k21⟩, ⟨h20, k20⟩, ⟨h19, k19⟩, ⟨h18, k18⟩, ⟨h17, k17⟩, ⟨h16, k16⟩, ⟨h15, k15⟩, ⟨h14, k14⟩, ⟨h13, k13⟩, ⟨h12, k12⟩, ⟨h11, k11⟩, ⟨h10, k10⟩, ⟨h9, k9⟩, ⟨h8, k8⟩, _⟩ := hs
  clear ha
  obtain ⟨r0, c0⟩ := plus_round b0 b4 (.inl rfl) h8 h9 h10 h11 h12 h13
  obtain ⟨r1, c1⟩ := plus_round b1 b5 c0 h14 h15 h16 h17 h18 h19
  obtain ⟨r2, c2⟩ := plus_round b2 b6 c1 h20 h21 h22 h23 h24 h25
  obtain ⟨r3, c3⟩ := plus_round b3 b7 c2 h26 h27 h28 h29 h30 h31
  clear h8 h9 h10 h11 h12 h13 h14 h15 h16 h17 h18 h19 h20 h21 h22 h23 h24 h25 h26 h27 h28 h29 h30 h31
  refine plus_done (n := 4) (a := [ρ 0, ρ 1, ρ 2, ρ 3]) (b := [ρ 4, ρ 5, ρ 6, ρ 7]) (s := [ρ 10, ρ 16, ρ 22, ρ 28]) (c := ρ 31) (d := ρ 32) (u64s_cons k10 (u64s_cons k16 (u64s_cons k22 (u64s_cons k28 u64s_nil)))) rfl ?_ c3 h32
  simp only [val, big]
  omega

/-! ### half -/
def su_half : Summ := ⟨[.slc 4], none, [.slc 4]⟩
def t_half0 : CT := .leaf ⟨[(13, .i .u64, .shr .u64 (.v 3) (.c 1)),
    (12, .i .u64, .bin .add .u64 (.v 10) (.v 11)),
    (11, .i .u64, .shl .u64 (.v 3) (.c 63)),
    (10, .i .u64, .shr .u64 (.v 2) (.c 1)),
    (9, .i .u64, .bin .add .u64 (.v 7) (.v 8)),
    (8, .i .u64, .shl .u64 (.v 2) (.c 63)),
    (7, .i .u64, .shr .u64 (.v 1) (.c 1)),
    (6, .i .u64, .bin .add .u64 (.v 4) (.v 5)),
    (5, .i .u64, .shl .u64 (.v 1) (.c 63)),
    (4, .i .u64, .shr .u64 (.v 0) (.c 1))],
    [], [.v 6, .v 9, .v 12, .v 13]⟩
theorem chk_half : checkFn Try.prog [] su_half 400 Try.f20 (fun _ => t_half0) = true := by kernel_rfl
theorem ok_half : SummOK Try.prog 20 su_half (Phi 20) := by
  refine summ_fn (Φ := Phi) 400 (fun _ => t_half0) Try.func20 tbl_nil chk_half ?_
  intro al hal l hl ρ hk hs ha
  have hn : su_half.inKinds.length = 4 := rfl
  have hr : row ρ 4 = [ρ 0, ρ 1, ρ 2, ρ 3] := rfl
  rw [hn, hr] at hk ⊢
  simp only [su_half, Summ.inKinds, List.flatMap_cons, List.flatMap_nil, List.replicate, List.cons_append, List.nil_append, List.append_nil, holdsAll, K.holds] at hk
  obtain ⟨b0, b1, b2, b3, _⟩ := hk
  simp only [t_half0, CT.leaves, List.cons_append, List.nil_append, List.mem_cons, List.not_mem_nil, or_false] at hl
  subst hl
  simp only [satTr_cons, satTr_nil, sv_lss, sv_leq, sv_gtr, sv_geq, sv_eql, sv_neq, sv_not, sv_beq, sv_pick, sv_add, sv_sub, sv_mul, sv_shr32, sv_shr1, sv_shl63, sv_fn, sv_eqs, E.den, List.map, K.holds] at hs
  simp only [asrOK_cons, asrOK_nil, if_true, if_false, Bool.false_eq_true, E.den] at ha
  obtain ⟨⟨h13, k13⟩, ⟨h12, k12⟩, ⟨h11, k11⟩, ⟨h10, k10⟩, ⟨h9, k9⟩, ⟨h8, k8⟩, ⟨h7, k7⟩, ⟨h6, k6⟩, ⟨h5, k5⟩, ⟨h4, k4⟩, _⟩ := hs
  clear ha
  have p0 := half_word b0 h4 h5 h6
  have p1 := half_word b1 h7 h8 h9
  have p2 := half_word b2 h10 h11 h12
  have p3 := half_top h13
  exact half_done (n := 4) (u64s_cons k6 (u64s_cons k9 (u64s_cons k12 (u64s_cons k13 u64s_nil)))) rfl (half_chain4 p0 p1 p2 p3) (Int.emod_two_eq _)

/-! ### regular -/
def su_regular : Summ := ⟨[.slc 4, .slc 4], none, [.slc 4]⟩
def form_regular : Tmpl := { kin := [.i .u64, .i .u64, .i .u64, .i .u64, .i .u64, .i .u64, .i .u64, .i .u64, .i .i64], slots := [(0, .s (.slc 2 0 4 4)), (1, .s (.slc 1 0 4 4)), (5, .s (.int .i64 (.v 8)))], mem := [(2, [.int .u64 (.v 0), .int .u64 (.v 1), .int .u64 (.v 2), .int .u64 (.v 3)]), (1, [.int .u64 (.v 4), .int .u64 (.v 5), .int .u64 (.v 6), .int .u64 (.v 7)])], nr := 3 }
def t_regular0 : CT := .node (.v 9)
  (.leaf ⟨[(20, .i .u64, .pick (.v 14) (.v 19) (.v 18)),
    (19, .i .u64, .bin .add .u64 (.v 18) (.c 9223372036854775808)),
    (18, .i .u64, .fn 20 [.v 10, .v 11, .v 12, .v 13] 3),
    (17, .i .u64, .fn 20 [.v 10, .v 11, .v 12, .v 13] 2),
    (16, .i .u64, .fn 20 [.v 10, .v 11, .v 12, .v 13] 1),
    (15, .i .u64, .fn 20 [.v 10, .v 11, .v 12, .v 13] 0),
    (14, .bool, .fn 19 [.v 0, .v 1, .v 2, .v 3, .v 4, .v 5, .v 6, .v 7] 4),
    (13, .i .u64, .fn 19 [.v 0, .v 1, .v 2, .v 3, .v 4, .v 5, .v 6, .v 7] 3),
    (12, .i .u64, .fn 19 [.v 0, .v 1, .v 2, .v 3, .v 4, .v 5, .v 6, .v 7] 2),
    (11, .i .u64, .fn 19 [.v 0, .v 1, .v 2, .v 3, .v 4, .v 5, .v 6, .v 7] 1),
    (10, .i .u64, .fn 19 [.v 0, .v 1, .v 2, .v 3, .v 4, .v 5, .v 6, .v 7] 0),
    (9, .bool, .cmp .eql (.v 8) (.c 1)),
    (8, .i .u64, .bin .rem .u64 (.v 0) (.c 2))],
    [(.v 9, true)], [.v 15, .v 16, .v 17, .v 20, .v 4, .v 5, .v 6, .v 7, .c 1, .c 1]⟩)
  (.leaf ⟨[(13, .i .u64, .fn 20 [.v 0, .v 1, .v 2, .v 3] 3),
    (12, .i .u64, .fn 20 [.v 0, .v 1, .v 2, .v 3] 2),
    (11, .i .u64, .fn 20 [.v 0, .v 1, .v 2, .v 3] 1),
    (10, .i .u64, .fn 20 [.v 0, .v 1, .v 2, .v 3] 0),
    (9, .bool, .cmp .eql (.v 8) (.c 1)),
    (8, .i .u64, .bin .rem .u64 (.v 0) (.c 2))],
    [(.v 9, false)], [.v 10, .v 11, .v 12, .v 13, .v 4, .v 5, .v 6, .v 7, .c 1, .c 1]⟩)
def t_regular1 : CT := .node (.v 9)
  (.node (.v 11)
  (.leaf ⟨[(23, .i .i64, .bin .add .i64 (.v 8) (.c 1)),
    (22, .i .u64, .pick (.v 16) (.v 21) (.v 20)),
    (21, .i .u64, .bin .add .u64 (.v 20) (.c 9223372036854775808)),
    (20, .i .u64, .fn 20 [.v 12, .v 13, .v 14, .v 15] 3),
    (19, .i .u64, .fn 20 [.v 12, .v 13, .v 14, .v 15] 2),
    (18, .i .u64, .fn 20 [.v 12, .v 13, .v 14, .v 15] 1),
    (17, .i .u64, .fn 20 [.v 12, .v 13, .v 14, .v 15] 0),
    (16, .bool, .fn 19 [.v 0, .v 1, .v 2, .v 3, .v 4, .v 5, .v 6, .v 7] 4),
    (15, .i .u64, .fn 19 [.v 0, .v 1, .v 2, .v 3, .v 4, .v 5, .v 6, .v 7] 3),
    (14, .i .u64, .fn 19 [.v 0, .v 1, .v 2, .v 3, .v 4, .v 5, .v 6, .v 7] 2),
    (13, .i .u64, .fn 19 [.v 0, .v 1, .v 2, .v 3, .v 4, .v 5, .v 6, .v 7] 1),
    (12, .i .u64, .fn 19 [.v 0, .v 1, .v 2, .v 3, .v 4, .v 5, .v 6, .v 7] 0),
    (11, .bool, .cmp .eql (.v 10) (.c 1)),
    (10, .i .u64, .bin .rem .u64 (.v 0) (.c 2)),
    (9, .bool, .cmp .lss (.v 8) (.c 256))],
    [(.v 11, true), (.v 9, true)], [.v 17, .v 18, .v 19, .v 22, .v 4, .v 5, .v 6, .v 7, .v 23, .c 1]⟩)
  (.leaf ⟨[(16, .i .i64, .bin .add .i64 (.v 8) (.c 1)),
    (15, .i .u64, .fn 20 [.v 0, .v 1, .v 2, .v 3] 3),
    (14, .i .u64, .fn 20 [.v 0, .v 1, .v 2, .v 3] 2),
    (13, .i .u64, .fn 20 [.v 0, .v 1, .v 2, .v 3] 1),
    (12, .i .u64, .fn 20 [.v 0, .v 1, .v 2, .v 3] 0),
    (11, .bool, .cmp .eql (.v 10) (.c 1)),
    (10, .i .u64, .bin .rem .u64 (.v 0) (.c 2)),
    (9, .bool, .cmp .lss (.v 8) (.c 256))],
    [(.v 11, false), (.v 9, true)], [.v 12, .v 13, .v 14, .v 15, .v 4, .v 5, .v 6, .v 7, .v 16, .c 1]⟩))
  (.leaf ⟨[(9, .bool, .cmp .lss (.v 8) (.c 256))],
    [(.v 9, false)], [.v 0, .v 1, .v 2, .v 3, .v 4, .v 5, .v 6, .v 7, .v 8, .c 0]⟩)
def t_regular2 : CT := .leaf ⟨[],
    [], [.v 0, .v 1, .v 2, .v 3]⟩
theorem chk_regular : loopChk Try.prog [(19, su_plus), (20, su_half)] su_regular 400 1 Try.f11 form_regular t_regular0 t_regular1 t_regular2 = true := by kernel_rfl
theorem ok_regular : SummOK Try.prog 11 su_regular (Phi 11) := by
  refine summ_loop (Φ := Phi) (τ := form_regular) (preF := rgPre 4) (step := rgStep 4) (postF := fun vs => vs.take 4) t_regular0 t_regular1 t_regular2 Try.func11 (tbl_cons ok_plus (tbl_cons ok_half tbl_nil)) chk_regular ?_ ?_ ?_ ?_
  · intro l hl ρ hk hs ha
    have hn : su_regular.inKinds.length = 8 := rfl
    have hr : row ρ 8 = [ρ 0, ρ 1, ρ 2, ρ 3, ρ 4, ρ 5, ρ 6, ρ 7] := rfl
    rw [hn, hr] at hk ⊢
    simp only [su_regular, form_regular, Summ.inKinds, List.flatMap_cons, List.flatMap_nil, List.replicate, List.cons_append, List.nil_append, List.append_nil, holdsAll, K.holds] at hk
    obtain ⟨b0, b1, b2, b3, b4, b5, b6, b7, _⟩ := hk
    simp only [t_regular0, CT.leaves, List.cons_append, List.nil_append, List.mem_cons, List.not_mem_nil, or_false] at hl
    rcases hl with rfl | rfl
    · simp only [satTr_cons, satTr_nil, sv_lss, sv_leq, sv_gtr, sv_geq, sv_eql, sv_neq, sv_not, sv_beq, sv_pick, sv_add, sv_sub, sv_mul, sv_shr32, sv_shr1, sv_shl63, sv_fn, sv_eqs, E.den, List.map, K.holds] at hs
      simp only [asrOK_cons, asrOK_nil, if_true, if_false, Bool.false_eq_true, E.den] at ha
      obtain ⟨⟨h20, k20⟩, ⟨h19, k19⟩, ⟨h18, k18⟩, ⟨h17, k17⟩, ⟨h16, k16⟩, ⟨h15, k15⟩, ⟨h14, k14⟩, ⟨h13, k13⟩, ⟨h12, k12⟩, ⟨h11, k11⟩, ⟨h10, k10⟩, ⟨h9, k9⟩, ⟨h8, k8⟩, _⟩ := hs
      obtain ⟨a0, _⟩ := ha
      have g10 : [ρ 10, ρ 11, ρ 12, ρ 13] = wds 4 (val [ρ 0, ρ 1, ρ 2, ρ 3] + val [ρ 4, ρ 5, ρ 6, ρ 7]) := get4 rfl h10 h11 h12 h13
      have e14 : ρ 14 = b2i (decide (big 4 ≤ val [ρ 0, ρ 1, ρ 2, ρ 3] + val [ρ 4, ρ 5, ρ 6, ρ 7])) := h14
      rw [st_dec] at e14
      have g15 : [ρ 15, ρ 16, ρ 17, ρ 18] = wds 4 (val [ρ 10, ρ 11, ρ 12, ρ 13] / 2) := get4 rfl h15 h16 h17 h18
      have o1 : ρ 8 = ρ 0 % 2 := rem2 b0 h8
      have o2 : val [ρ 0, ρ 1, ρ 2, ρ 3] % 2 = 1 := by
        have := yes_of h9 a0
        simp only [val]
        omega
      have ho : regI 4 [ρ 4, ρ 5, ρ 6, ρ 7] [ρ 0, ρ 1, ρ 2, ρ 3] = [ρ 15, ρ 16, ρ 17, ρ 20] := by
        rw [regI, if_pos o2]
        exact regI_odd (s := [ρ 10, ρ 11, ρ 12, ρ 13]) (hh := [ρ 15, ρ 16, ρ 17]) (v := ρ 18) (c := ρ 14) (t := ρ 19) (o := ρ 20) (u64s_cons b0 (u64s_cons b1 (u64s_cons b2 (u64s_cons b3 u64s_nil)))) rfl (u64s_cons b4 (u64s_cons b5 (u64s_cons b6 (u64s_cons b7 u64s_nil)))) rfl (by decide) g10 e14 g15 h19 h20
      change regI 4 [ρ 4, ρ 5, ρ 6, ρ 7] [ρ 0, ρ 1, ρ 2, ρ 3] ++ [ρ 4, ρ 5, ρ 6, ρ 7] ++ [1] ++ [1] = _
      rw [ho]
      rfl
    · simp only [satTr_cons, satTr_nil, sv_lss, sv_leq, sv_gtr, sv_geq, sv_eql, sv_neq, sv_not, sv_beq, sv_pick, sv_add, sv_sub, sv_mul, sv_shr32, sv_shr1, sv_shl63, sv_fn, sv_eqs, E.den, List.map, K.holds] at hs
      simp only [asrOK_cons, asrOK_nil, if_true, if_false, Bool.false_eq_true, E.den] at ha
      obtain ⟨⟨h13, k13⟩, ⟨h12, k12⟩, ⟨h11, k11⟩, ⟨h10, k10⟩, ⟨h9, k9⟩, ⟨h8, k8⟩, _⟩ := hs
      obtain ⟨a0, _⟩ := ha
      have g10 : [ρ 10, ρ 11, ρ 12, ρ 13] = wds 4 (val [ρ 0, ρ 1, ρ 2, ρ 3] / 2) := get4 rfl h10 h11 h12 h13
      have o1 : ρ 8 = ρ 0 % 2 := rem2 b0 h8
      have o2 : ¬ val [ρ 0, ρ 1, ρ 2, ρ 3] % 2 = 1 := by
        have := no_of h9 a0
        simp only [val]
        omega
      have ho : regI 4 [ρ 4, ρ 5, ρ 6, ρ 7] [ρ 0, ρ 1, ρ 2, ρ 3] = [ρ 10, ρ 11, ρ 12, ρ 13] := by rw [regI, if_neg o2, g10]
      change regI 4 [ρ 4, ρ 5, ρ 6, ρ 7] [ρ 0, ρ 1, ρ 2, ρ 3] ++ [ρ 4, ρ 5, ρ 6, ρ 7] ++ [1] ++ [1] = _
      rw [ho]
      rfl
  · intro l hl ρ hk hs ha
    have hn : form_regular.kin.length = 9 := rfl
    have hr : row ρ 9 = [ρ 0, ρ 1, ρ 2, ρ 3, ρ 4, ρ 5, ρ 6, ρ 7, ρ 8] := rfl
    rw [hn, hr] at hk ⊢
    simp only [su_regular, form_regular, Summ.inKinds, List.flatMap_cons, List.flatMap_nil, List.replicate, List.cons_append, List.nil_append, List.append_nil, holdsAll, K.holds] at hk
    obtain ⟨b0, b1, b2, b3, b4, b5, b6, b7, b8, _⟩ := hk
    simp only [t_regular1, CT.leaves, List.cons_append, List.nil_append, List.mem_cons, List.not_mem_nil, or_false] at hl
    rcases hl with rfl | rfl | rfl
    · simp only [satTr_cons, satTr_nil, sv_lss, sv_leq, sv_gtr, sv_geq, sv_eql, sv_neq, sv_not, sv_beq, sv_pick, sv_add, sv_sub, sv_mul, sv_shr32, sv_shr1, sv_shl63, sv_fn, sv_eqs, E.den, List.map, K.holds] at hs
      simp only [asrOK_cons, asrOK_nil, if_true, if_false, Bool.false_eq_true, E.den] at ha
      obtain ⟨⟨h23, k23⟩, ⟨h22, k22⟩, ⟨h21, k21⟩, ⟨h20, k20⟩, ⟨h19, k19⟩, ⟨h18, k18⟩, ⟨h17, k17⟩, ⟨h16, k16⟩, ⟨h15, k15⟩, ⟨h14, k14⟩, ⟨h13, k13⟩, ⟨h12, k12⟩, ⟨h11, k11⟩, ⟨h10, k10⟩, ⟨h9, k9⟩, _⟩ := hs
      obtain ⟨a0, a1, _⟩ := ha
      have g12 : [ρ 12, ρ 13, ρ 14, ρ 15] = wds 4 (val [ρ 0, ρ 1, ρ 2, ρ 3] + val [ρ 4, ρ 5, ρ 6, ρ 7]) := get4 rfl h12 h13 h14 h15
      have e16 : ρ 16 = b2i (decide (big 4 ≤ val [ρ 0, ρ 1, ρ 2, ρ 3] + val [ρ 4, ρ 5, ρ 6, ρ 7])) := h16
      rw [st_dec] at e16
      have g17 : [ρ 17, ρ 18, ρ 19, ρ 20] = wds 4 (val [ρ 12, ρ 13, ρ 14, ρ 15] / 2) := get4 rfl h17 h18 h19 h20
      have o1 : ρ 10 = ρ 0 % 2 := rem2 b0 h10
      have o2 : val [ρ 0, ρ 1, ρ 2, ρ 3] % 2 = 1 := by
        have := yes_of h11 a0
        simp only [val]
        omega
      have ho : regI 4 [ρ 4, ρ 5, ρ 6, ρ 7] [ρ 0, ρ 1, ρ 2, ρ 3] = [ρ 17, ρ 18, ρ 19, ρ 22] := by
        rw [regI, if_pos o2]
        exact regI_odd (s := [ρ 12, ρ 13, ρ 14, ρ 15]) (hh := [ρ 17, ρ 18, ρ 19]) (v := ρ 20) (c := ρ 16) (t := ρ 21) (o := ρ 22) (u64s_cons b0 (u64s_cons b1 (u64s_cons b2 (u64s_cons b3 u64s_nil)))) rfl (u64s_cons b4 (u64s_cons b5 (u64s_cons b6 (u64s_cons b7 u64s_nil)))) rfl (by decide) g12 e16 g17 h21 h22
      have hlt := yes_of h9 a1
      have hi : I.val Phi ρ (.bin .add .i64 (.v 8) (.c 1)) = ρ 8 + 1 := i64_inc (x := ρ 8) b8.1 (by omega)
      rw [hi] at h23
      change (if ρ 8 < 64 * 4 then regI 4 [ρ 4, ρ 5, ρ 6, ρ 7] [ρ 0, ρ 1, ρ 2, ρ 3] ++ [ρ 4, ρ 5, ρ 6, ρ 7] ++ [ρ 8 + 1, 1] else _) = _
      rw [if_pos (by omega), ho, ← h23]
      rfl
    · simp only [satTr_cons, satTr_nil, sv_lss, sv_leq, sv_gtr, sv_geq, sv_eql, sv_neq, sv_not, sv_beq, sv_pick, sv_add, sv_sub, sv_mul, sv_shr32, sv_shr1, sv_shl63, sv_fn, sv_eqs, E.den, List.map, K.holds] at hs
      simp only [asrOK_cons, asrOK_nil, if_true, if_false, Bool.false_eq_true, E.den] at ha
      obtain ⟨⟨h16, k16⟩, ⟨h15, k15⟩, ⟨h14, k14⟩, ⟨h13, k13⟩, ⟨h12, k12⟩, ⟨h11, k11⟩, ⟨h10, k10⟩, ⟨h9, k9⟩, _⟩ := hs
      obtain ⟨a0, a1, _⟩ := ha
      have g12 : [ρ 12, ρ 13, ρ 14, ρ 15] = wds 4 (val [ρ 0, ρ 1, ρ 2, ρ 3] / 2) := get4 rfl h12 h13 h14 h15
      have o1 : ρ 10 = ρ 0 % 2 := rem2 b0 h10
      have o2 : ¬ val [ρ 0, ρ 1, ρ 2, ρ 3] % 2 = 1 := by
        have := no_of h11 a0
        simp only [val]
        omega
      have ho : regI 4 [ρ 4, ρ 5, ρ 6, ρ 7] [ρ 0, ρ 1, ρ 2, ρ 3] = [ρ 12, ρ 13, ρ 14, ρ 15] := by rw [regI, if_neg o2, g12]
      have hlt := yes_of h9 a1
      have hi : I.val Phi ρ (.bin .add .i64 (.v 8) (.c 1)) = ρ 8 + 1 := i64_inc (x := ρ 8) b8.1 (by omega)
      rw [hi] at h16
      change (if ρ 8 < 64 * 4 then regI 4 [ρ 4, ρ 5, ρ 6, ρ 7] [ρ 0, ρ 1, ρ 2, ρ 3] ++ [ρ 4, ρ 5, ρ 6, ρ 7] ++ [ρ 8 + 1, 1] else _) = _
      rw [if_pos (by omega), ho, ← h16]
      rfl
    · simp only [satTr_cons, satTr_nil, sv_lss, sv_leq, sv_gtr, sv_geq, sv_eql, sv_neq, sv_not, sv_beq, sv_pick, sv_add, sv_sub, sv_mul, sv_shr32, sv_shr1, sv_shl63, sv_fn, sv_eqs, E.den, List.map, K.holds] at hs
      simp only [asrOK_cons, asrOK_nil, if_true, if_false, Bool.false_eq_true, E.den] at ha
      obtain ⟨⟨h9, k9⟩, _⟩ := hs
      obtain ⟨a0, _⟩ := ha
      change (if ρ 8 < 64 * 4 then _ else [ρ 0, ρ 1, ρ 2, ρ 3, ρ 4, ρ 5, ρ 6, ρ 7, ρ 8] ++ [0]) = _
      rw [if_neg (by omega)]
      rfl
  · intro l hl ρ hk hs ha
    have hn : form_regular.kin.length = 9 := rfl
    have hr : row ρ 9 = [ρ 0, ρ 1, ρ 2, ρ 3, ρ 4, ρ 5, ρ 6, ρ 7, ρ 8] := rfl
    rw [hn, hr] at hk ⊢
    simp only [su_regular, form_regular, Summ.inKinds, List.flatMap_cons, List.flatMap_nil, List.replicate, List.cons_append, List.nil_append, List.append_nil, holdsAll, K.holds] at hk
    obtain ⟨b0, b1, b2, b3, b4, b5, b6, b7, b8, _⟩ := hk
    simp only [t_regular2, CT.leaves, List.cons_append, List.nil_append, List.mem_cons, List.not_mem_nil, or_false] at hl
    subst hl
    simp only [satTr_cons, satTr_nil, sv_lss, sv_leq, sv_gtr, sv_geq, sv_eql, sv_neq, sv_not, sv_beq, sv_pick, sv_add, sv_sub, sv_mul, sv_shr32, sv_shr1, sv_shl63, sv_fn, sv_eqs, E.den, List.map, K.holds] at hs
    simp only [asrOK_cons, asrOK_nil, if_true, if_false, Bool.false_eq_true, E.den] at ha
    clear hs
    clear ha
    rfl
  · intro ins hins
    exact reg_loop (n := 4) (by decide) ins (by have := holdsAll_length hins; exact this)

/-! ### bitsW -/
def su_bitsW : Summ := bitSu 4
theorem chk_bitsW : countChk Try.prog [] (bitSu 4) 400 Try.f12 (bitForm 4) (64 * 4) (List.replicate 4 (.i .u64)) (.leaf ⟨[], [], wordsE 4 ++ [.c 1]⟩) (bitT2 4) (.leaf ⟨[], [], [.c 0]⟩) = true := by kernel_rfl
theorem ok_bitsW : SummOK Try.prog 12 su_bitsW (Phi 12) := summ_bits (Φ := Phi) 4 Try.func12 chk_bitsW

/-! ### one -/
def su_one : Summ := ⟨[.ptr 4], (some 0), [.arg 0]⟩
def t_one0 : CT := .leaf ⟨[],
    [], [.c 12436184717236109307, .c 3962172157175319849, .c 7381016538464732718, .c 1011752739694698287]⟩
theorem chk_one : checkFn Try.prog [] su_one 400 Try.f29 (fun _ => t_one0) = true := by kernel_rfl
theorem ok_one : SummOK Try.prog 29 su_one (Phi 29) := by
  refine summ_fn (Φ := Phi) 400 (fun _ => t_one0) Try.func29 tbl_nil chk_one ?_
  intro al hal l hl ρ hk hs ha
  have hn : su_one.inKinds.length = 4 := rfl
  have hr : row ρ 4 = [ρ 0, ρ 1, ρ 2, ρ 3] := rfl
  rw [hn, hr] at hk ⊢
  simp only [su_one, Summ.inKinds, List.flatMap_cons, List.flatMap_nil, List.replicate, List.cons_append, List.nil_append, List.append_nil, holdsAll, K.holds] at hk
  obtain ⟨b0, b1, b2, b3, _⟩ := hk
  simp only [t_one0, CT.leaves, List.cons_append, List.nil_append, List.mem_cons, List.not_mem_nil, or_false] at hl
  subst hl
  simp only [satTr_cons, satTr_nil, sv_lss, sv_leq, sv_gtr, sv_geq, sv_eql, sv_neq, sv_not, sv_beq, sv_pick, sv_add, sv_sub, sv_mul, sv_shr32, sv_shr1, sv_shl63, sv_fn, sv_eqs, E.den, List.map, K.holds] at hs
  simp only [asrOK_cons, asrOK_nil, if_true, if_false, Bool.false_eq_true, E.den] at ha
  clear hs
  clear ha
  change wds 4 r = [12436184717236109307, 3962172157175319849, 7381016538464732718, 1011752739694698287]
  kernel_rfl

/-! ### One -/
def su_One : Summ := ⟨[], none, [.agg 4]⟩
def t_One0 : CT := .leaf ⟨[(3, .i .u64, .fn 29 [.c 0, .c 0, .c 0, .c 0] 3),
    (2, .i .u64, .fn 29 [.c 0, .c 0, .c 0, .c 0] 2),
    (1, .i .u64, .fn 29 [.c 0, .c 0, .c 0, .c 0] 1),
    (0, .i .u64, .fn 29 [.c 0, .c 0, .c 0, .c 0] 0)],
    [], [.v 0, .v 1, .v 2, .v 3]⟩
theorem chk_One : checkFn Try.prog [(29, su_one)] su_One 400 Try.f23 (fun _ => t_One0) = true := by kernel_rfl
theorem ok_One : SummOK Try.prog 23 su_One (Phi 23) := by
  refine summ_fn (Φ := Phi) 400 (fun _ => t_One0) Try.func23 (tbl_cons ok_one tbl_nil) chk_One ?_
  intro al hal l hl ρ hk hs ha
  have hn : su_One.inKinds.length = 0 := rfl
  have hr : row ρ 0 = [] := rfl
  rw [hn, hr] at hk ⊢
  simp only [su_One, Summ.inKinds, List.flatMap_cons, List.flatMap_nil, List.replicate, List.cons_append, List.nil_append, List.append_nil, holdsAll, K.holds] at hk
  simp only [t_One0, CT.leaves, List.cons_append, List.nil_append, List.mem_cons, List.not_mem_nil, or_false] at hl
  subst hl
  simp only [satTr_cons, satTr_nil, sv_lss, sv_leq, sv_gtr, sv_geq, sv_eql, sv_neq, sv_not, sv_beq, sv_pick, sv_add, sv_sub, sv_mul, sv_shr32, sv_shr1, sv_shl63, sv_fn, sv_eqs, E.den, List.map, K.holds] at hs
  simp only [asrOK_cons, asrOK_nil, if_true, if_false, Bool.false_eq_true, E.den] at ha
  obtain ⟨⟨h3, k3⟩, ⟨h2, k2⟩, ⟨h1, k1⟩, ⟨h0, k0⟩, _⟩ := hs
  clear ha
  have g0 : [ρ 0, ρ 1, ρ 2, ρ 3] = wds 4 r := get4 rfl h0 h1 h2 h3
  exact g0.symm

/-! ### iOne -/
def su_iOne : Summ := ⟨[], none, [.agg 4]⟩
def t_iOne0 : CT := .leaf ⟨[(3, .i .u64, .fn 23 [] 3),
    (2, .i .u64, .fn 23 [] 2),
    (1, .i .u64, .fn 23 [] 1),
    (0, .i .u64, .fn 23 [] 0)],
    [], [.v 0, .v 1, .v 2, .v 3]⟩
theorem chk_iOne : checkFn Try.prog [(23, su_One)] su_iOne 400 Try.f15 (fun _ => t_iOne0) = true := by kernel_rfl
theorem ok_iOne : SummOK Try.prog 15 su_iOne (Phi 15) := by
  refine summ_fn (Φ := Phi) 400 (fun _ => t_iOne0) Try.func15 (tbl_cons ok_One tbl_nil) chk_iOne ?_
  intro al hal l hl ρ hk hs ha
  have hn : su_iOne.inKinds.length = 0 := rfl
  have hr : row ρ 0 = [] := rfl
  rw [hn, hr] at hk ⊢
  simp only [su_iOne, Summ.inKinds, List.flatMap_cons, List.flatMap_nil, List.replicate, List.cons_append, List.nil_append, List.append_nil, holdsAll, K.holds] at hk
  simp only [t_iOne0, CT.leaves, List.cons_append, List.nil_append, List.mem_cons, List.not_mem_nil, or_false] at hl
  subst hl
  simp only [satTr_cons, satTr_nil, sv_lss, sv_leq, sv_gtr, sv_geq, sv_eql, sv_neq, sv_not, sv_beq, sv_pick, sv_add, sv_sub, sv_mul, sv_shr32, sv_shr1, sv_shl63, sv_fn, sv_eqs, E.den, List.map, K.holds] at hs
  simp only [asrOK_cons, asrOK_nil, if_true, if_false, Bool.false_eq_true, E.den] at ha
  obtain ⟨⟨h3, k3⟩, ⟨h2, k2⟩, ⟨h1, k1⟩, ⟨h0, k0⟩, _⟩ := hs
  clear ha
  have g0 : [ρ 0, ρ 1, ρ 2, ρ 3] = wds 4 r := get4 rfl h0 h1 h2 h3
  exact g0.symm

/-! ### lIsUint64 -/
def su_lIsUint64 : Summ := ⟨[.agg 4], none, [.sc .bool]⟩
def t_lIsUint640 : CT := .node (.v 9)
  (.leaf ⟨[(9, .bool, .not (.v 8)),
    (8, .bool, .fn 6 [.v 0, .v 1, .v 2, .v 3, .v 4, .v 5, .v 6, .v 7] 0),
    (7, .i .u64, .fn 7 [] 3),
    (6, .i .u64, .fn 7 [] 2),
    (5, .i .u64, .fn 7 [] 1),
    (4, .i .u64, .fn 7 [] 0)],
    [(.v 9, true)], [.c 1]⟩)
  (.node (.v 21)
  (.node (.v 22)
  (.leaf ⟨[(27, .bool, .fn 13 [.v 23, .v 24, .v 25, .v 26] 0),
    (26, .i .u64, .fn 15 [] 3),
    (25, .i .u64, .fn 15 [] 2),
    (24, .i .u64, .fn 15 [] 1),
    (23, .i .u64, .fn 15 [] 0),
    (22, .bool, .not (.v 19)),
    (21, .bool, .beq (.v 20) (.v 19)),
    (20, .bool, .fn 13 [.v 0, .v 1, .v 2, .v 3] 0),
    (19, .bool, .cmp .leq (.v 18) (.c 64)),
    (18, .i .i64, .fn 12 [.v 14, .v 15, .v 16, .v 17] 0),
    (17, .i .u64, .fn 11 [.v 0, .v 1, .v 2, .v 3, .v 10, .v 11, .v 12, .v 13] 3),
    (16, .i .u64, .fn 11 [.v 0, .v 1, .v 2, .v 3, .v 10, .v 11, .v 12, .v 13] 2),
    (15, .i .u64, .fn 11 [.v 0, .v 1, .v 2, .v 3, .v 10, .v 11, .v 12, .v 13] 1),
    (14, .i .u64, .fn 11 [.v 0, .v 1, .v 2, .v 3, .v 10, .v 11, .v 12, .v 13] 0),
    (13, .i .u64, .fn 7 [] 3),
    (12, .i .u64, .fn 7 [] 2),
    (11, .i .u64, .fn 7 [] 1),
    (10, .i .u64, .fn 7 [] 0),
    (9, .bool, .not (.v 8)),
    (8, .bool, .fn 6 [.v 0, .v 1, .v 2, .v 3, .v 4, .v 5, .v 6, .v 7] 0),
    (7, .i .u64, .fn 7 [] 3),
    (6, .i .u64, .fn 7 [] 2),
    (5, .i .u64, .fn 7 [] 1),
    (4, .i .u64, .fn 7 [] 0)],
    [(.v 22, true), (.v 21, true), (.v 9, false)], [.v 27]⟩)
  (.node (.v 24)
  (.leaf ⟨[(29, .bool, .fn 13 [.v 25, .v 26, .v 27, .v 28] 0),
    (28, .i .u64, .fn 15 [] 3),
    (27, .i .u64, .fn 15 [] 2),
    (26, .i .u64, .fn 15 [] 1),
    (25, .i .u64, .fn 15 [] 0),
    (24, .bool, .cmp .eql (.v 23) (.v 14)),
    (23, .i .u64, .fn 14 [.v 0, .v 1, .v 2, .v 3] 0),
    (22, .bool, .not (.v 19)),
    (21, .bool, .beq (.v 20) (.v 19)),
    (20, .bool, .fn 13 [.v 0, .v 1, .v 2, .v 3] 0),
    (19, .bool, .cmp .leq (.v 18) (.c 64)),
    (18, .i .i64, .fn 12 [.v 14, .v 15, .v 16, .v 17] 0),
    (17, .i .u64, .fn 11 [.v 0, .v 1, .v 2, .v 3, .v 10, .v 11, .v 12, .v 13] 3),
    (16, .i .u64, .fn 11 [.v 0, .v 1, .v 2, .v 3, .v 10, .v 11, .v 12, .v 13] 2),
    (15, .i .u64, .fn 11 [.v 0, .v 1, .v 2, .v 3, .v 10, .v 11, .v 12, .v 13] 1),
    (14, .i .u64, .fn 11 [.v 0, .v 1, .v 2, .v 3, .v 10, .v 11, .v 12, .v 13] 0),
    (13, .i .u64, .fn 7 [] 3),
    (12, .i .u64, .fn 7 [] 2),
    (11, .i .u64, .fn 7 [] 1),
    (10, .i .u64, .fn 7 [] 0),
    (9, .bool, .not (.v 8)),
    (8, .bool, .fn 6 [.v 0, .v 1, .v 2, .v 3, .v 4, .v 5, .v 6, .v 7] 0),
    (7, .i .u64, .fn 7 [] 3),
    (6, .i .u64, .fn 7 [] 2),
    (5, .i .u64, .fn 7 [] 1),
    (4, .i .u64, .fn 7 [] 0)],
    [(.v 24, true), (.v 22, false), (.v 21, true), (.v 9, false)], [.v 29]⟩)
  (.leaf ⟨[(24, .bool, .cmp .eql (.v 23) (.v 14)),
    (23, .i .u64, .fn 14 [.v 0, .v 1, .v 2, .v 3] 0),
    (22, .bool, .not (.v 19)),
    (21, .bool, .beq (.v 20) (.v 19)),
    (20, .bool, .fn 13 [.v 0, .v 1, .v 2, .v 3] 0),
    (19, .bool, .cmp .leq (.v 18) (.c 64)),
    (18, .i .i64, .fn 12 [.v 14, .v 15, .v 16, .v 17] 0),
    (17, .i .u64, .fn 11 [.v 0, .v 1, .v 2, .v 3, .v 10, .v 11, .v 12, .v 13] 3),
    (16, .i .u64, .fn 11 [.v 0, .v 1, .v 2, .v 3, .v 10, .v 11, .v 12, .v 13] 2),
    (15, .i .u64, .fn 11 [.v 0, .v 1, .v 2, .v 3, .v 10, .v 11, .v 12, .v 13] 1),
    (14, .i .u64, .fn 11 [.v 0, .v 1, .v 2, .v 3, .v 10, .v 11, .v 12, .v 13] 0),
    (13, .i .u64, .fn 7 [] 3),
    (12, .i .u64, .fn 7 [] 2),
    (11, .i .u64, .fn 7 [] 1),
    (10, .i .u64, .fn 7 [] 0),
    (9, .bool, .not (.v 8)),
    (8, .bool, .fn 6 [.v 0, .v 1, .v 2, .v 3, .v 4, .v 5, .v 6, .v 7] 0),
    (7, .i .u64, .fn 7 [] 3),
    (6, .i .u64, .fn 7 [] 2),
    (5, .i .u64, .fn 7 [] 1),
    (4, .i .u64, .fn 7 [] 0)],
    [(.v 24, false), (.v 22, false), (.v 21, true), (.v 9, false)], [.c 0]⟩)))
  (.leaf ⟨[(21, .bool, .beq (.v 20) (.v 19)),
    (20, .bool, .fn 13 [.v 0, .v 1, .v 2, .v 3] 0),
    (19, .bool, .cmp .leq (.v 18) (.c 64)),
    (18, .i .i64, .fn 12 [.v 14, .v 15, .v 16, .v 17] 0),
    (17, .i .u64, .fn 11 [.v 0, .v 1, .v 2, .v 3, .v 10, .v 11, .v 12, .v 13] 3),
    (16, .i .u64, .fn 11 [.v 0, .v 1, .v 2, .v 3, .v 10, .v 11, .v 12, .v 13] 2),
    (15, .i .u64, .fn 11 [.v 0, .v 1, .v 2, .v 3, .v 10, .v 11, .v 12, .v 13] 1),
    (14, .i .u64, .fn 11 [.v 0, .v 1, .v 2, .v 3, .v 10, .v 11, .v 12, .v 13] 0),
    (13, .i .u64, .fn 7 [] 3),
    (12, .i .u64, .fn 7 [] 2),
    (11, .i .u64, .fn 7 [] 1),
    (10, .i .u64, .fn 7 [] 0),
    (9, .bool, .not (.v 8)),
    (8, .bool, .fn 6 [.v 0, .v 1, .v 2, .v 3, .v 4, .v 5, .v 6, .v 7] 0),
    (7, .i .u64, .fn 7 [] 3),
    (6, .i .u64, .fn 7 [] 2),
    (5, .i .u64, .fn 7 [] 1),
    (4, .i .u64, .fn 7 [] 0)],
    [(.v 21, false), (.v 9, false)], [.c 0]⟩))
theorem chk_lIsUint64 : checkFn Try.prog [(6, su_less), (7, su_prime), (11, su_regular), (12, su_bitsW), (13, su_iIsU), (14, su_iU64), (15, su_iOne)] su_lIsUint64 400 Try.f4 (fun _ => t_lIsUint640) = true := by kernel_rfl
theorem ok_lIsUint64 : SummOK Try.prog 4 su_lIsUint64 (Phi 4) := by
  refine summ_fn (Φ := Phi) 400 (fun _ => t_lIsUint640) Try.func4 (tbl_cons ok_less (tbl_cons ok_prime (tbl_cons ok_regular (tbl_cons ok_bitsW (tbl_cons ok_iIsU (tbl_cons ok_iU64 (tbl_cons ok_iOne tbl_nil))))))) chk_lIsUint64 ?_
  intro al hal l hl ρ hk hs ha
  have hn : su_lIsUint64.inKinds.length = 4 := rfl
  have hr : row ρ 4 = [ρ 0, ρ 1, ρ 2, ρ 3] := rfl
  rw [hn, hr] at hk ⊢
  simp only [su_lIsUint64, Summ.inKinds, List.flatMap_cons, List.flatMap_nil, List.replicate, List.cons_append, List.nil_append, List.append_nil, holdsAll, K.holds] at hk
  obtain ⟨b0, b1, b2, b3, _⟩ := hk
  simp only [t_lIsUint640, CT.leaves, List.cons_append, List.nil_append, List.mem_cons, List.not_mem_nil, or_false] at hl
  rcases hl with rfl | rfl | rfl | rfl | rfl
  · simp only [satTr_cons, satTr_nil, sv_lss, sv_leq, sv_gtr, sv_geq, sv_eql, sv_neq, sv_not, sv_beq, sv_pick, sv_add, sv_sub, sv_mul, sv_shr32, sv_shr1, sv_shl63, sv_fn, sv_eqs, E.den, List.map, K.holds] at hs
    simp only [asrOK_cons, asrOK_nil, if_true, if_false, Bool.false_eq_true, E.den] at ha
    obtain ⟨⟨h9, k9⟩, ⟨h8, k8⟩, ⟨h7, k7⟩, ⟨h6, k6⟩, ⟨h5, k5⟩, ⟨h4, k4⟩, _⟩ := hs
    obtain ⟨a0, _⟩ := ha
    have g4 : [ρ 4, ρ 5, ρ 6, ρ 7] = wds 4 q := get4 rfl h4 h5 h6 h7
    have e8 : ρ 8 = b2i (decide (val [ρ 0, ρ 1, ρ 2, ρ 3] < val [ρ 4, ρ 5, ρ 6, ρ 7])) := h8
    rw [st_dec] at e8
    rfl
  · simp only [satTr_cons, satTr_nil, sv_lss, sv_leq, sv_gtr, sv_geq, sv_eql, sv_neq, sv_not, sv_beq, sv_pick, sv_add, sv_sub, sv_mul, sv_shr32, sv_shr1, sv_shl63, sv_fn, sv_eqs, E.den, List.map, K.holds] at hs
    simp only [asrOK_cons, asrOK_nil, if_true, if_false, Bool.false_eq_true, E.den] at ha
    obtain ⟨⟨h27, k27⟩, ⟨h26, k26⟩, ⟨h25, k25⟩, ⟨h24, k24⟩, ⟨h23, k23⟩, ⟨h22, k22⟩, ⟨h21, k21⟩, ⟨h20, k20⟩, ⟨h19, k19⟩, ⟨h18, k18⟩, ⟨h17, k17⟩, ⟨h16, k16⟩, ⟨h15, k15⟩, ⟨h14, k14⟩, ⟨h13, k13⟩, ⟨h12, k12⟩, ⟨h11, k11⟩, ⟨h10, k10⟩, ⟨h9, k9⟩, ⟨h8, k8⟩, ⟨h7, k7⟩, ⟨h6, k6⟩, ⟨h5, k5⟩, ⟨h4, k4⟩, _⟩ := hs
    obtain ⟨a0, a1, a2, _⟩ := ha
    have g4 : [ρ 4, ρ 5, ρ 6, ρ 7] = wds 4 q := get4 rfl h4 h5 h6 h7
    have e8 : ρ 8 = b2i (decide (val [ρ 0, ρ 1, ρ 2, ρ 3] < val [ρ 4, ρ 5, ρ 6, ρ 7])) := h8
    rw [st_dec] at e8
    have g10 : [ρ 10, ρ 11, ρ 12, ρ 13] = wds 4 q := get4 rfl h10 h11 h12 h13
    have g14 : [ρ 14, ρ 15, ρ 16, ρ 17] = regF 4 [ρ 0, ρ 1, ρ 2, ρ 3, ρ 10, ρ 11, ρ 12, ρ 13] := get4 (regF_length 4 _ rfl) h14 h15 h16 h17
    have g18 : ρ 18 = blen (64 * 4) (val [ρ 14, ρ 15, ρ 16, ρ 17]) := h18
    have e20 : ρ 20 = b2i (decide (redM q ri (val [ρ 0, ρ 1, ρ 2, ρ 3]) < 18446744073709551616)) := h20
    rw [st_dec] at e20
    have g23 : [ρ 23, ρ 24, ρ 25, ρ 26] = wds 4 r := get4 rfl h23 h24 h25 h26
    have e27 : ρ 27 = b2i (decide (redM q ri (val [ρ 23, ρ 24, ρ 25, ρ 26]) < 18446744073709551616)) := h27
    rw [st_dec] at e27
    have hp : val (wds 4 q) = q := by kernel_rfl
    rw [g4, hp] at e8
    have hA : val [ρ 0, ρ 1, ρ 2, ρ 3] < q := by omega
    have hr : [ρ 14, ρ 15, ρ 16, ρ 17] = wds 4 (redM q ri (val [ρ 0, ρ 1, ρ 2, ρ 3])) := by
      have e3 : [ρ 0, ρ 1, ρ 2, ρ 3] ++ [ρ 10, ρ 11, ρ 12, ρ 13] = [ρ 0, ρ 1, ρ 2, ρ 3] ++ wds 4 q := by rw [← g10]
      have e4 := g14
      change _ = regF 4 ([ρ 0, ρ 1, ρ 2, ρ 3] ++ [ρ 10, ρ 11, ρ 12, ρ 13]) at e4
      rw [e4, e3]
      exact law_regular (u64s_cons b0 (u64s_cons b1 (u64s_cons b2 (u64s_cons b3 u64s_nil)))) rfl hA hp (by decide) (by decide) ri_eq
    have hR := red_lt (q := q) (ri := ri) (X := val [ρ 0, ρ 1, ρ 2, ρ 3]) q_pos
    have hv : val [ρ 14, ρ 15, ρ 16, ρ 17] = redM q ri (val [ρ 0, ρ 1, ρ 2, ρ 3]) := by rw [hr]; exact val_wds_of hR.1 (Int.lt_trans hR.2 q_lt)
    rw [hv] at g18
    have hiff : ρ 18 ≤ 64 ↔ redM q ri (val [ρ 0, ρ 1, ρ 2, ρ 3]) < 18446744073709551616 := by
      rw [g18]
      exact blen_64 (64 * 4) _ (by decide) hR.1 (by have := Int.lt_trans hR.2 q_lt; rwa [big_pow] at this)
    rw [g23] at e27
    have h1 : redM q ri (val (wds 4 r)) = 1 := by kernel_rfl
    rw [h1] at e27
    have hf : ρ 27 = 1 := by omega
    change [1] = [ρ 27]
    rw [hf]
  · simp only [satTr_cons, satTr_nil, sv_lss, sv_leq, sv_gtr, sv_geq, sv_eql, sv_neq, sv_not, sv_beq, sv_pick, sv_add, sv_sub, sv_mul, sv_shr32, sv_shr1, sv_shl63, sv_fn, sv_eqs, E.den, List.map, K.holds] at hs
    simp only [asrOK_cons, asrOK_nil, if_true, if_false, Bool.false_eq_true, E.den] at ha
    obtain ⟨⟨h29, k29⟩, ⟨h28, k28⟩, ⟨h27, k27⟩, ⟨h26, k26⟩, ⟨h25, k25⟩, ⟨h24, k24⟩, ⟨h23, k23⟩, ⟨h22, k22⟩, ⟨h21, k21⟩, ⟨h20, k20⟩, ⟨h19, k19⟩, ⟨h18, k18⟩, ⟨h17, k17⟩, ⟨h16, k16⟩, ⟨h15, k15⟩, ⟨h14, k14⟩, ⟨h13, k13⟩, ⟨h12, k12⟩, ⟨h11, k11⟩, ⟨h10, k10⟩, ⟨h9, k9⟩, ⟨h8, k8⟩, ⟨h7, k7⟩, ⟨h6, k6⟩, ⟨h5, k5⟩, ⟨h4, k4⟩, _⟩ := hs
    obtain ⟨a0, a1, a2, a3, _⟩ := ha
    have g4 : [ρ 4, ρ 5, ρ 6, ρ 7] = wds 4 q := get4 rfl h4 h5 h6 h7
    have e8 : ρ 8 = b2i (decide (val [ρ 0, ρ 1, ρ 2, ρ 3] < val [ρ 4, ρ 5, ρ 6, ρ 7])) := h8
    rw [st_dec] at e8
    have g10 : [ρ 10, ρ 11, ρ 12, ρ 13] = wds 4 q := get4 rfl h10 h11 h12 h13
    have g14 : [ρ 14, ρ 15, ρ 16, ρ 17] = regF 4 [ρ 0, ρ 1, ρ 2, ρ 3, ρ 10, ρ 11, ρ 12, ρ 13] := get4 (regF_length 4 _ rfl) h14 h15 h16 h17
    have g18 : ρ 18 = blen (64 * 4) (val [ρ 14, ρ 15, ρ 16, ρ 17]) := h18
    have e20 : ρ 20 = b2i (decide (redM q ri (val [ρ 0, ρ 1, ρ 2, ρ 3]) < 18446744073709551616)) := h20
    rw [st_dec] at e20
    have g23 : ρ 23 = redM q ri (val [ρ 0, ρ 1, ρ 2, ρ 3]) % 18446744073709551616 := h23
    have g25 : [ρ 25, ρ 26, ρ 27, ρ 28] = wds 4 r := get4 rfl h25 h26 h27 h28
    have e29 : ρ 29 = b2i (decide (redM q ri (val [ρ 25, ρ 26, ρ 27, ρ 28]) < 18446744073709551616)) := h29
    rw [st_dec] at e29
    have hp : val (wds 4 q) = q := by kernel_rfl
    rw [g4, hp] at e8
    have hA : val [ρ 0, ρ 1, ρ 2, ρ 3] < q := by omega
    have hr : [ρ 14, ρ 15, ρ 16, ρ 17] = wds 4 (redM q ri (val [ρ 0, ρ 1, ρ 2, ρ 3])) := by
      have e3 : [ρ 0, ρ 1, ρ 2, ρ 3] ++ [ρ 10, ρ 11, ρ 12, ρ 13] = [ρ 0, ρ 1, ρ 2, ρ 3] ++ wds 4 q := by rw [← g10]
      have e4 := g14
      change _ = regF 4 ([ρ 0, ρ 1, ρ 2, ρ 3] ++ [ρ 10, ρ 11, ρ 12, ρ 13]) at e4
      rw [e4, e3]
      exact law_regular (u64s_cons b0 (u64s_cons b1 (u64s_cons b2 (u64s_cons b3 u64s_nil)))) rfl hA hp (by decide) (by decide) ri_eq
    have hR := red_lt (q := q) (ri := ri) (X := val [ρ 0, ρ 1, ρ 2, ρ 3]) q_pos
    have hv : val [ρ 14, ρ 15, ρ 16, ρ 17] = redM q ri (val [ρ 0, ρ 1, ρ 2, ρ 3]) := by rw [hr]; exact val_wds_of hR.1 (Int.lt_trans hR.2 q_lt)
    rw [hv] at g18
    have hiff : ρ 18 ≤ 64 ↔ redM q ri (val [ρ 0, ρ 1, ρ 2, ρ 3]) < 18446744073709551616 := by
      rw [g18]
      exact blen_64 (64 * 4) _ (by decide) hR.1 (by have := Int.lt_trans hR.2 q_lt; rwa [big_pow] at this)
    rw [g25] at e29
    have h1 : redM q ri (val (wds 4 r)) = 1 := by kernel_rfl
    rw [h1] at e29
    have hf : ρ 29 = 1 := by omega
    change [1] = [ρ 29]
    rw [hf]
  · simp only [satTr_cons, satTr_nil, sv_lss, sv_leq, sv_gtr, sv_geq, sv_eql, sv_neq, sv_not, sv_beq, sv_pick, sv_add, sv_sub, sv_mul, sv_shr32, sv_shr1, sv_shl63, sv_fn, sv_eqs, E.den, List.map, K.holds] at hs
    simp only [asrOK_cons, asrOK_nil, if_true, if_false, Bool.false_eq_true, E.den] at ha
    obtain ⟨⟨h24, k24⟩, ⟨h23, k23⟩, ⟨h22, k22⟩, ⟨h21, k21⟩, ⟨h20, k20⟩, ⟨h19, k19⟩, ⟨h18, k18⟩, ⟨h17, k17⟩, ⟨h16, k16⟩, ⟨h15, k15⟩, ⟨h14, k14⟩, ⟨h13, k13⟩, ⟨h12, k12⟩, ⟨h11, k11⟩, ⟨h10, k10⟩, ⟨h9, k9⟩, ⟨h8, k8⟩, ⟨h7, k7⟩, ⟨h6, k6⟩, ⟨h5, k5⟩, ⟨h4, k4⟩, _⟩ := hs
    obtain ⟨a0, a1, a2, a3, _⟩ := ha
    have g4 : [ρ 4, ρ 5, ρ 6, ρ 7] = wds 4 q := get4 rfl h4 h5 h6 h7
    have e8 : ρ 8 = b2i (decide (val [ρ 0, ρ 1, ρ 2, ρ 3] < val [ρ 4, ρ 5, ρ 6, ρ 7])) := h8
    rw [st_dec] at e8
    have g10 : [ρ 10, ρ 11, ρ 12, ρ 13] = wds 4 q := get4 rfl h10 h11 h12 h13
    have g14 : [ρ 14, ρ 15, ρ 16, ρ 17] = regF 4 [ρ 0, ρ 1, ρ 2, ρ 3, ρ 10, ρ 11, ρ 12, ρ 13] := get4 (regF_length 4 _ rfl) h14 h15 h16 h17
    have g18 : ρ 18 = blen (64 * 4) (val [ρ 14, ρ 15, ρ 16, ρ 17]) := h18
    have e20 : ρ 20 = b2i (decide (redM q ri (val [ρ 0, ρ 1, ρ 2, ρ 3]) < 18446744073709551616)) := h20
    rw [st_dec] at e20
    have g23 : ρ 23 = redM q ri (val [ρ 0, ρ 1, ρ 2, ρ 3]) % 18446744073709551616 := h23
    have hp : val (wds 4 q) = q := by kernel_rfl
    rw [g4, hp] at e8
    have hA : val [ρ 0, ρ 1, ρ 2, ρ 3] < q := by omega
    have hr : [ρ 14, ρ 15, ρ 16, ρ 17] = wds 4 (redM q ri (val [ρ 0, ρ 1, ρ 2, ρ 3])) := by
      have e3 : [ρ 0, ρ 1, ρ 2, ρ 3] ++ [ρ 10, ρ 11, ρ 12, ρ 13] = [ρ 0, ρ 1, ρ 2, ρ 3] ++ wds 4 q := by rw [← g10]
      have e4 := g14
      change _ = regF 4 ([ρ 0, ρ 1, ρ 2, ρ 3] ++ [ρ 10, ρ 11, ρ 12, ρ 13]) at e4
      rw [e4, e3]
      exact law_regular (u64s_cons b0 (u64s_cons b1 (u64s_cons b2 (u64s_cons b3 u64s_nil)))) rfl hA hp (by decide) (by decide) ri_eq
    have hR := red_lt (q := q) (ri := ri) (X := val [ρ 0, ρ 1, ρ 2, ρ 3]) q_pos
    have hv : val [ρ 14, ρ 15, ρ 16, ρ 17] = redM q ri (val [ρ 0, ρ 1, ρ 2, ρ 3]) := by rw [hr]; exact val_wds_of hR.1 (Int.lt_trans hR.2 q_lt)
    rw [hv] at g18
    have hiff : ρ 18 ≤ 64 ↔ redM q ri (val [ρ 0, ρ 1, ρ 2, ρ 3]) < 18446744073709551616 := by
      rw [g18]
      exact blen_64 (64 * 4) _ (by decide) hR.1 (by have := Int.lt_trans hR.2 q_lt; rwa [big_pow] at this)
    have hw : ρ 14 = redM q ri (val [ρ 0, ρ 1, ρ 2, ρ 3]) % 18446744073709551616 := congrArg (fun l => l.getD 0 0) hr
    omega
  · simp only [satTr_cons, satTr_nil, sv_lss, sv_leq, sv_gtr, sv_geq, sv_eql, sv_neq, sv_not, sv_beq, sv_pick, sv_add, sv_sub, sv_mul, sv_shr32, sv_shr1, sv_shl63, sv_fn, sv_eqs, E.den, List.map, K.holds] at hs
    simp only [asrOK_cons, asrOK_nil, if_true, if_false, Bool.false_eq_true, E.den] at ha
    obtain ⟨⟨h21, k21⟩, ⟨h20, k20⟩, ⟨h19, k19⟩, ⟨h18, k18⟩, ⟨h17, k17⟩, ⟨h16, k16⟩, ⟨h15, k15⟩, ⟨h14, k14⟩, ⟨h13, k13⟩, ⟨h12, k12⟩, ⟨h11, k11⟩, ⟨h10, k10⟩, ⟨h9, k9⟩, ⟨h8, k8⟩, ⟨h7, k7⟩, ⟨h6, k6⟩, ⟨h5, k5⟩, ⟨h4, k4⟩, _⟩ := hs
    obtain ⟨a0, a1, _⟩ := ha
    have g4 : [ρ 4, ρ 5, ρ 6, ρ 7] = wds 4 q := get4 rfl h4 h5 h6 h7
    have e8 : ρ 8 = b2i (decide (val [ρ 0, ρ 1, ρ 2, ρ 3] < val [ρ 4, ρ 5, ρ 6, ρ 7])) := h8
    rw [st_dec] at e8
    have g10 : [ρ 10, ρ 11, ρ 12, ρ 13] = wds 4 q := get4 rfl h10 h11 h12 h13
    have g14 : [ρ 14, ρ 15, ρ 16, ρ 17] = regF 4 [ρ 0, ρ 1, ρ 2, ρ 3, ρ 10, ρ 11, ρ 12, ρ 13] := get4 (regF_length 4 _ rfl) h14 h15 h16 h17
    have g18 : ρ 18 = blen (64 * 4) (val [ρ 14, ρ 15, ρ 16, ρ 17]) := h18
    have e20 : ρ 20 = b2i (decide (redM q ri (val [ρ 0, ρ 1, ρ 2, ρ 3]) < 18446744073709551616)) := h20
    rw [st_dec] at e20
    have hp : val (wds 4 q) = q := by kernel_rfl
    rw [g4, hp] at e8
    have hA : val [ρ 0, ρ 1, ρ 2, ρ 3] < q := by omega
    have hr : [ρ 14, ρ 15, ρ 16, ρ 17] = wds 4 (redM q ri (val [ρ 0, ρ 1, ρ 2, ρ 3])) := by
      have e3 : [ρ 0, ρ 1, ρ 2, ρ 3] ++ [ρ 10, ρ 11, ρ 12, ρ 13] = [ρ 0, ρ 1, ρ 2, ρ 3] ++ wds 4 q := by rw [← g10]
      have e4 := g14
      change _ = regF 4 ([ρ 0, ρ 1, ρ 2, ρ 3] ++ [ρ 10, ρ 11, ρ 12, ρ 13]) at e4
      rw [e4, e3]
      exact law_regular (u64s_cons b0 (u64s_cons b1 (u64s_cons b2 (u64s_cons b3 u64s_nil)))) rfl hA hp (by decide) (by decide) ri_eq
    have hR := red_lt (q := q) (ri := ri) (X := val [ρ 0, ρ 1, ρ 2, ρ 3]) q_pos
    have hv : val [ρ 14, ρ 15, ρ 16, ρ 17] = redM q ri (val [ρ 0, ρ 1, ρ 2, ρ 3]) := by rw [hr]; exact val_wds_of hR.1 (Int.lt_trans hR.2 q_lt)
    rw [hv] at g18
    have hiff : ρ 18 ≤ 64 ↔ redM q ri (val [ρ 0, ρ 1, ρ 2, ρ 3]) < 18446744073709551616 := by
      rw [g18]
      exact blen_64 (64 * 4) _ (by decide) hR.1 (by have := Int.lt_trans hR.2 q_lt; rwa [big_pow] at this)
    by_cases hc : redM q ri (val [ρ 0, ρ 1, ρ 2, ρ 3]) < 18446744073709551616
    · have := hiff.mpr hc; omega
    · have := mt hiff.mp hc; omega

end Go.Proofs.Ytjpaohhkmlgajaa
