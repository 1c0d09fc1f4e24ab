/- The functions of the seat Ytmhgmobbifaeiaa, each once: its ways through the text, and what it comes to in numbers. Written by a program (gen.py). -/
import Derived.Test.YtmhgmobbifaeiaaSymAc
import Derived.Test.YtmhgmobbifaeiaaSymU
import Derived.Test.YtmhgmobbifaeiaaSymZ
import Derived.Test.YtmhgmobbifaeiaaRows
set_option linter.unusedVariables false
set_option linter.unusedSimpArgs false
set_option maxRecDepth 4000
namespace Go.Proofs.Ytmhgmobbifaeiaa
open Go.Sym

def q : Int := 4002409555221667393417789825735904156556882819939007885332058136124031650490837864442687629129015664037894272559787
def r : Int := 3380320199399472671518931668520476396067793891014375699959770179129436917079669831430077592723774664465579537268733

def ri : Int := 3231460744492646417066832100176244795738767926513225105051837195607029917124509527734802654356338138714468589979680
theorem ri_eq : (big 6 * ri) % q = 1 % q := by kernel_rfl
theorem q_pos : (0 : Int) < q := by decide
theorem q_lt : q < big 6 := by decide

def Phi : Nat → List Int → List Int
  | 6 => lessF 6
  | 9 => sameF 6
  | 7 => primeF 6 q
  | 19 => plusF 6
  | 26 => lessenF 6
  | 18 => addWF 6
  | 29 => setF 6 r
  | 33 => smallF q
  | 23 => setF 6 r
  | 15 => setF 6 r
  | 35 => mul64F
  | 31 => madd0F
  | 32 => madd2F
  | 30 => fmF 6 q ri
  | 25 => fmF 6 q ri
  | 27 => fmF 6 q ri
  | 17 => fmF 6 q ri
  | 28 => fitsF
  | 21 => isUF q ri
  | 22 => u64F q ri
  | 24 => cmpF 6 q ri
  | 8 => fmF 6 q ri
  | 13 => isUF q ri
  | 14 => u64F q ri
  | 16 => cmpF 6 q ri
  | 20 => halfF 6
  | 12 => bitsWF 6
  | 11 => regF 6
  | 3 => fun _ => [1]
  | 4 => fun _ => [1]
  | 5 => fun _ => [1]
  | 36 => add64F
  | 34 => sub64F
  | 10 => shiftF 6
  | _ => fun _ => []

theorem ok_add64 : SummOK Try.prog 36 addSub (Phi 36) := summ_add64 Try.func36 (by kernel_rfl) (by kernel_rfl) (by kernel_rfl) (by kernel_rfl)

theorem ok_sub64 : SummOK Try.prog 34 addSub (Phi 34) := summ_sub64 Try.func34 (by kernel_rfl) (by kernel_rfl) (by kernel_rfl) (by kernel_rfl)

/-! ### mul64 -/
def su_mul64 : Summ := ⟨[.sc (.i .u64), .sc (.i .u64)], none, [.sc (.i .u64), .sc (.i .u64)]⟩
def t_mul640 : CT := .leaf ⟨[(18, .i .u64, .bin .mul .u64 (.v 0) (.v 1)),
    (17, .i .u64, .bin .add .u64 (.v 15) (.v 16)),
    (16, .i .u64, .shr .u64 (.v 13) (.c 32)),
    (15, .i .u64, .bin .add .u64 (.v 14) (.v 11)),
    (14, .i .u64, .bin .mul .u64 (.v 3) (.v 5)),
    (13, .i .u64, .bin .add .u64 (.v 10) (.v 12)),
    (12, .i .u64, .bin .mul .u64 (.v 2) (.v 5)),
    (11, .i .u64, .shr .u64 (.v 9) (.c 32)),
    (10, .i .u64, .bin .and .u64 (.v 9) (.c 4294967295)),
    (9, .i .u64, .bin .add .u64 (.v 7) (.v 8)),
    (8, .i .u64, .shr .u64 (.v 6) (.c 32)),
    (7, .i .u64, .bin .mul .u64 (.v 3) (.v 4)),
    (6, .i .u64, .bin .mul .u64 (.v 2) (.v 4)),
    (5, .i .u64, .shr .u64 (.v 1) (.c 32)),
    (4, .i .u64, .bin .and .u64 (.v 1) (.c 4294967295)),
    (3, .i .u64, .shr .u64 (.v 0) (.c 32)),
    (2, .i .u64, .bin .and .u64 (.v 0) (.c 4294967295))],
    [], [.v 17, .v 18]⟩
theorem chk_mul64 : checkFn Try.prog [] su_mul64 400 Try.f35 (fun _ => t_mul640) = true := by kernel_rfl
theorem ok_mul64 : SummOK Try.prog 35 su_mul64 (Phi 35) := by
  refine summ_fn (Φ := Phi) 400 (fun _ => t_mul640) Try.func35 tbl_nil chk_mul64 ?_
  intro al hal l hl ρ hk hs ha
  have hn : su_mul64.inKinds.length = 2 := rfl
  have hr : row ρ 2 = [ρ 0, ρ 1] := rfl
  rw [hn, hr] at hk ⊢
  simp only [su_mul64, Summ.inKinds, List.flatMap_cons, List.flatMap_nil, List.replicate, List.cons_append, List.nil_append, List.append_nil, holdsAll, K.holds] at hk
  obtain ⟨b0, b1, _⟩ := hk
  simp only [t_mul640, CT.leaves, List.cons_append, List.nil_append, List.mem_cons, List.not_mem_nil, or_false] at hl
  subst hl
  simp only [satTr_cons, satTr_nil, sv_lss, sv_leq, sv_gtr, sv_geq, sv_eql, sv_neq, sv_not, sv_beq, sv_pick, sv_add, sv_sub, sv_mul, sv_shr32, sv_shr1, sv_shl63, sv_fn, sv_eqs, E.den, List.map, K.holds] at hs
  simp only [asrOK_cons, asrOK_nil, if_true, if_false, Bool.false_eq_true, E.den] at ha
  obtain ⟨⟨h18, k18⟩, ⟨h17, k17⟩, ⟨h16, k16⟩, ⟨h15, k15⟩, ⟨h14, k14⟩, ⟨h13, k13⟩, ⟨h12, k12⟩, ⟨h11, k11⟩, ⟨h10, k10⟩, ⟨h9, k9⟩, ⟨h8, k8⟩, ⟨h7, k7⟩, ⟨h6, k6⟩, ⟨h5, k5⟩, ⟨h4, k4⟩, ⟨h3, k3⟩, ⟨h2, k2⟩, _⟩ := hs
  clear ha
  exact mul64_done b0 b1 h2 h3 h4 h5 h6 h7 h8 h9 k9 h10 h11 h12 h13 h14 h15 h16 h17 h18

/-! ### madd0 -/
def su_madd0 : Summ := ⟨[.sc (.i .u64), .sc (.i .u64), .sc (.i .u64)], none, [.sc (.i .u64)]⟩
def t_madd00 : CT := .leaf ⟨[(8, .bit, .fn 36 [.v 3, .c 0, .v 6] 1),
    (7, .i .u64, .fn 36 [.v 3, .c 0, .v 6] 0),
    (6, .bit, .fn 36 [.v 4, .v 2, .c 0] 1),
    (5, .i .u64, .fn 36 [.v 4, .v 2, .c 0] 0),
    (4, .i .u64, .fn 35 [.v 0, .v 1] 1),
    (3, .i .u64, .fn 35 [.v 0, .v 1] 0)],
    [], [.v 7]⟩
theorem chk_madd0 : checkFn Try.prog [(35, su_mul64), (36, addSub)] su_madd0 400 Try.f31 (fun _ => t_madd00) = true := by kernel_rfl
theorem ok_madd0 : SummOK Try.prog 31 su_madd0 (Phi 31) := by
  refine summ_fn (Φ := Phi) 400 (fun _ => t_madd00) Try.func31 (tbl_cons ok_mul64 (tbl_cons ok_add64 tbl_nil)) chk_madd0 ?_
  intro al hal l hl ρ hk hs ha
  have hn : su_madd0.inKinds.length = 3 := rfl
  have hr : row ρ 3 = [ρ 0, ρ 1, ρ 2] := rfl
  rw [hn, hr] at hk ⊢
  simp only [su_madd0, Summ.inKinds, List.flatMap_cons, List.flatMap_nil, List.replicate, List.cons_append, List.nil_append, List.append_nil, holdsAll, K.holds] at hk
  obtain ⟨b0, b1, b2, _⟩ := hk
  simp only [t_madd00, CT.leaves, List.cons_append, List.nil_append, List.mem_cons, List.not_mem_nil, or_false] at hl
  subst hl
  simp only [satTr_cons, satTr_nil, sv_lss, sv_leq, sv_gtr, sv_geq, sv_eql, sv_neq, sv_not, sv_beq, sv_pick, sv_add, sv_sub, sv_mul, sv_shr32, sv_shr1, sv_shl63, sv_fn, sv_eqs, E.den, List.map, K.holds] at hs
  simp only [asrOK_cons, asrOK_nil, if_true, if_false, Bool.false_eq_true, E.den] at ha
  obtain ⟨⟨h8, k8⟩, ⟨h7, k7⟩, ⟨h6, k6⟩, ⟨h5, k5⟩, ⟨h4, k4⟩, ⟨h3, k3⟩, _⟩ := hs
  clear ha
  have g3 : ρ 3 = ρ 0 * ρ 1 / 18446744073709551616 := h3
  have g4 : ρ 4 = ρ 0 * ρ 1 % 18446744073709551616 := h4
  have r5 : ρ 5 + 18446744073709551616 * ρ 6 = ρ 4 + ρ 2 + 0 := adc h5 h6
  have r7 : ρ 7 + 18446744073709551616 * ρ 8 = ρ 3 + 0 + ρ 6 := adc h7 h8
  exact madd0_done b0 b1 b2 g3 g4 r5 r7 k5 k7

/-! ### madd2 -/
def su_madd2 : Summ := ⟨[.sc (.i .u64), .sc (.i .u64), .sc (.i .u64), .sc (.i .u64)], none, [.sc (.i .u64), .sc (.i .u64)]⟩
def t_madd20 : CT := .leaf ⟨[(13, .bit, .fn 36 [.v 8, .c 0, .v 11] 1),
    (12, .i .u64, .fn 36 [.v 8, .c 0, .v 11] 0),
    (11, .bit, .fn 36 [.v 5, .v 6, .c 0] 1),
    (10, .i .u64, .fn 36 [.v 5, .v 6, .c 0] 0),
    (9, .bit, .fn 36 [.v 4, .c 0, .v 7] 1),
    (8, .i .u64, .fn 36 [.v 4, .c 0, .v 7] 0),
    (7, .bit, .fn 36 [.v 2, .v 3, .c 0] 1),
    (6, .i .u64, .fn 36 [.v 2, .v 3, .c 0] 0),
    (5, .i .u64, .fn 35 [.v 0, .v 1] 1),
    (4, .i .u64, .fn 35 [.v 0, .v 1] 0)],
    [], [.v 12, .v 10]⟩
theorem chk_madd2 : checkFn Try.prog [(35, su_mul64), (36, addSub)] su_madd2 400 Try.f32 (fun _ => t_madd20) = true := by kernel_rfl
theorem ok_madd2 : SummOK Try.prog 32 su_madd2 (Phi 32) := by
  refine summ_fn (Φ := Phi) 400 (fun _ => t_madd20) Try.func32 (tbl_cons ok_mul64 (tbl_cons ok_add64 tbl_nil)) chk_madd2 ?_
  intro al hal l hl ρ hk hs ha
  have hn : su_madd2.inKinds.length = 4 := rfl
  have hr : row ρ 4 = [ρ 0, ρ 1, ρ 2, ρ 3] := rfl
  rw [hn, hr] at hk ⊢
  simp only [su_madd2, Summ.inKinds, List.flatMap_cons, List.flatMap_nil, List.replicate, List.cons_append, List.nil_append, List.append_nil, holdsAll, K.holds] at hk
  obtain ⟨b0, b1, b2, b3, _⟩ := hk
  simp only [t_madd20, CT.leaves, List.cons_append, List.nil_append, List.mem_cons, List.not_mem_nil, or_false] at hl
  subst hl
  simp only [satTr_cons, satTr_nil, sv_lss, sv_leq, sv_gtr, sv_geq, sv_eql, sv_neq, sv_not, sv_beq, sv_pick, sv_add, sv_sub, sv_mul, sv_shr32, sv_shr1, sv_shl63, sv_fn, sv_eqs, E.den, List.map, K.holds] at hs
  simp only [asrOK_cons, asrOK_nil, if_true, if_false, Bool.false_eq_true, E.den] at ha
  obtain ⟨⟨h13, k13⟩, ⟨h12, k12⟩, ⟨h11, k11⟩, ⟨h10, k10⟩, ⟨h9, k9⟩, ⟨h8, k8⟩, ⟨h7, k7⟩, ⟨h6, k6⟩, ⟨h5, k5⟩, ⟨h4, k4⟩, _⟩ := hs
  clear ha
  have g4 : ρ 4 = ρ 0 * ρ 1 / 18446744073709551616 := h4
  have g5 : ρ 5 = ρ 0 * ρ 1 % 18446744073709551616 := h5
  have r6 : ρ 6 + 18446744073709551616 * ρ 7 = ρ 2 + ρ 3 + 0 := adc h6 h7
  have r8 : ρ 8 + 18446744073709551616 * ρ 9 = ρ 4 + 0 + ρ 7 := adc h8 h9
  have r10 : ρ 10 + 18446744073709551616 * ρ 11 = ρ 5 + ρ 6 + 0 := adc h10 h11
  have r12 : ρ 12 + 18446744073709551616 * ρ 13 = ρ 8 + 0 + ρ 11 := adc h12 h13
  exact madd2_done b0 b1 b2 b3 g4 g5 r6 r8 r10 r12 k6 k8 k10 k12 k7 k11

/-! ### small -/
def su_small : Summ := ⟨[.ptr 6], none, [.sc .bool]⟩
def t_small0 : CT := .node (.v 6)
  (.leaf ⟨[(6, .bool, .cmp .lss (.v 5) (.c 1873798617647539866))],
    [(.v 6, true)], [.c 1]⟩)
  (.node (.v 7)
  (.node (.v 8)
  (.leaf ⟨[(8, .bool, .cmp .lss (.v 4) (.c 5412103778470702295)),
    (7, .bool, .cmp .eql (.v 5) (.c 1873798617647539866)),
    (6, .bool, .cmp .lss (.v 5) (.c 1873798617647539866))],
    [(.v 8, true), (.v 7, true), (.v 6, false)], [.c 1]⟩)
  (.node (.v 9)
  (.node (.v 10)
  (.leaf ⟨[(10, .bool, .cmp .lss (.v 3) (.c 7239337960414712511)),
    (9, .bool, .cmp .eql (.v 4) (.c 5412103778470702295)),
    (8, .bool, .cmp .lss (.v 4) (.c 5412103778470702295)),
    (7, .bool, .cmp .eql (.v 5) (.c 1873798617647539866)),
    (6, .bool, .cmp .lss (.v 5) (.c 1873798617647539866))],
    [(.v 10, true), (.v 9, true), (.v 8, false), (.v 7, true), (.v 6, false)], [.c 1]⟩)
  (.node (.v 11)
  (.node (.v 12)
  (.leaf ⟨[(12, .bool, .cmp .lss (.v 2) (.c 7435674573564081700)),
    (11, .bool, .cmp .eql (.v 3) (.c 7239337960414712511)),
    (10, .bool, .cmp .lss (.v 3) (.c 7239337960414712511)),
    (9, .bool, .cmp .eql (.v 4) (.c 5412103778470702295)),
    (8, .bool, .cmp .lss (.v 4) (.c 5412103778470702295)),
    (7, .bool, .cmp .eql (.v 5) (.c 1873798617647539866)),
    (6, .bool, .cmp .lss (.v 5) (.c 1873798617647539866))],
    [(.v 12, true), (.v 11, true), (.v 10, false), (.v 9, true), (.v 8, false), (.v 7, true), (.v 6, false)], [.c 1]⟩)
  (.node (.v 13)
  (.node (.v 14)
  (.leaf ⟨[(14, .bool, .cmp .lss (.v 1) (.c 2210141511517208575)),
    (13, .bool, .cmp .eql (.v 2) (.c 7435674573564081700)),
    (12, .bool, .cmp .lss (.v 2) (.c 7435674573564081700)),
    (11, .bool, .cmp .eql (.v 3) (.c 7239337960414712511)),
    (10, .bool, .cmp .lss (.v 3) (.c 7239337960414712511)),
    (9, .bool, .cmp .eql (.v 4) (.c 5412103778470702295)),
    (8, .bool, .cmp .lss (.v 4) (.c 5412103778470702295)),
    (7, .bool, .cmp .eql (.v 5) (.c 1873798617647539866)),
    (6, .bool, .cmp .lss (.v 5) (.c 1873798617647539866))],
    [(.v 14, true), (.v 13, true), (.v 12, false), (.v 11, true), (.v 10, false), (.v 9, true), (.v 8, false), (.v 7, true), (.v 6, false)], [.c 1]⟩)
  (.node (.v 15)
  (.leaf ⟨[(16, .bool, .cmp .lss (.v 0) (.c 13402431016077863595)),
    (15, .bool, .cmp .eql (.v 1) (.c 2210141511517208575)),
    (14, .bool, .cmp .lss (.v 1) (.c 2210141511517208575)),
    (13, .bool, .cmp .eql (.v 2) (.c 7435674573564081700)),
    (12, .bool, .cmp .lss (.v 2) (.c 7435674573564081700)),
    (11, .bool, .cmp .eql (.v 3) (.c 7239337960414712511)),
    (10, .bool, .cmp .lss (.v 3) (.c 7239337960414712511)),
    (9, .bool, .cmp .eql (.v 4) (.c 5412103778470702295)),
    (8, .bool, .cmp .lss (.v 4) (.c 5412103778470702295)),
    (7, .bool, .cmp .eql (.v 5) (.c 1873798617647539866)),
    (6, .bool, .cmp .lss (.v 5) (.c 1873798617647539866))],
    [(.v 15, true), (.v 14, false), (.v 13, true), (.v 12, false), (.v 11, true), (.v 10, false), (.v 9, true), (.v 8, false), (.v 7, true), (.v 6, false)], [.v 16]⟩)
  (.leaf ⟨[(15, .bool, .cmp .eql (.v 1) (.c 2210141511517208575)),
    (14, .bool, .cmp .lss (.v 1) (.c 2210141511517208575)),
    (13, .bool, .cmp .eql (.v 2) (.c 7435674573564081700)),
    (12, .bool, .cmp .lss (.v 2) (.c 7435674573564081700)),
    (11, .bool, .cmp .eql (.v 3) (.c 7239337960414712511)),
    (10, .bool, .cmp .lss (.v 3) (.c 7239337960414712511)),
    (9, .bool, .cmp .eql (.v 4) (.c 5412103778470702295)),
    (8, .bool, .cmp .lss (.v 4) (.c 5412103778470702295)),
    (7, .bool, .cmp .eql (.v 5) (.c 1873798617647539866)),
    (6, .bool, .cmp .lss (.v 5) (.c 1873798617647539866))],
    [(.v 15, false), (.v 14, false), (.v 13, true), (.v 12, false), (.v 11, true), (.v 10, false), (.v 9, true), (.v 8, false), (.v 7, true), (.v 6, false)], [.c 0]⟩)))
  (.leaf ⟨[(13, .bool, .cmp .eql (.v 2) (.c 7435674573564081700)),
    (12, .bool, .cmp .lss (.v 2) (.c 7435674573564081700)),
    (11, .bool, .cmp .eql (.v 3) (.c 7239337960414712511)),
    (10, .bool, .cmp .lss (.v 3) (.c 7239337960414712511)),
    (9, .bool, .cmp .eql (.v 4) (.c 5412103778470702295)),
    (8, .bool, .cmp .lss (.v 4) (.c 5412103778470702295)),
    (7, .bool, .cmp .eql (.v 5) (.c 1873798617647539866)),
    (6, .bool, .cmp .lss (.v 5) (.c 1873798617647539866))],
    [(.v 13, false), (.v 12, false), (.v 11, true), (.v 10, false), (.v 9, true), (.v 8, false), (.v 7, true), (.v 6, false)], [.c 0]⟩)))
  (.leaf ⟨[(11, .bool, .cmp .eql (.v 3) (.c 7239337960414712511)),
    (10, .bool, .cmp .lss (.v 3) (.c 7239337960414712511)),
    (9, .bool, .cmp .eql (.v 4) (.c 5412103778470702295)),
    (8, .bool, .cmp .lss (.v 4) (.c 5412103778470702295)),
    (7, .bool, .cmp .eql (.v 5) (.c 1873798617647539866)),
    (6, .bool, .cmp .lss (.v 5) (.c 1873798617647539866))],
    [(.v 11, false), (.v 10, false), (.v 9, true), (.v 8, false), (.v 7, true), (.v 6, false)], [.c 0]⟩)))
  (.leaf ⟨[(9, .bool, .cmp .eql (.v 4) (.c 5412103778470702295)),
    (8, .bool, .cmp .lss (.v 4) (.c 5412103778470702295)),
    (7, .bool, .cmp .eql (.v 5) (.c 1873798617647539866)),
    (6, .bool, .cmp .lss (.v 5) (.c 1873798617647539866))],
    [(.v 9, false), (.v 8, false), (.v 7, true), (.v 6, false)], [.c 0]⟩)))
  (.leaf ⟨[(7, .bool, .cmp .eql (.v 5) (.c 1873798617647539866)),
    (6, .bool, .cmp .lss (.v 5) (.c 1873798617647539866))],
    [(.v 7, false), (.v 6, false)], [.c 0]⟩))
theorem chk_small : checkFn Try.prog [] su_small 400 Try.f33 (fun _ => t_small0) = true := by kernel_rfl
theorem ok_small : SummOK Try.prog 33 su_small (Phi 33) := by
  refine summ_fn (Φ := Phi) 400 (fun _ => t_small0) Try.func33 tbl_nil chk_small ?_
  intro al hal l hl ρ hk hs ha
  have hn : su_small.inKinds.length = 6 := rfl
  have hr : row ρ 6 = [ρ 0, ρ 1, ρ 2, ρ 3, ρ 4, ρ 5] := rfl
  rw [hn, hr] at hk ⊢
  simp only [su_small, Summ.inKinds, List.flatMap_cons, List.flatMap_nil, List.replicate, List.cons_append, List.nil_append, List.append_nil, holdsAll, K.holds] at hk
  obtain ⟨b0, b1, b2, b3, b4, b5, _⟩ := hk
  simp only [t_small0, CT.leaves, List.cons_append, List.nil_append, List.mem_cons, List.not_mem_nil, or_false] at hl
  rcases hl with rfl | rfl | rfl | rfl | rfl | rfl | rfl | rfl | rfl | rfl | rfl
  · simp only [satTr_cons, satTr_nil, sv_lss, sv_leq, sv_gtr, sv_geq, sv_eql, sv_neq, sv_not, sv_beq, sv_pick, sv_add, sv_sub, sv_mul, sv_shr32, sv_shr1, sv_shl63, sv_fn, sv_eqs, E.den, List.map, K.holds] at hs
    simp only [asrOK_cons, asrOK_nil, if_true, if_false, Bool.false_eq_true, E.den] at ha
    obtain ⟨⟨h6, k6⟩, _⟩ := hs
    obtain ⟨a0, _⟩ := ha
    refine dec_one (p := val [ρ 0, ρ 1, ρ 2, ρ 3, ρ 4, ρ 5] < q) (z := 1) ?_
    simp only [val, q, List.cons.injEq, and_true]
    omega
  · simp only [satTr_cons, satTr_nil, sv_lss, sv_leq, sv_gtr, sv_geq, sv_eql, sv_neq, sv_not, sv_beq, sv_pick, sv_add, sv_sub, sv_mul, sv_shr32, sv_shr1, sv_shl63, sv_fn, sv_eqs, E.den, List.map, K.holds] at hs
    simp only [asrOK_cons, asrOK_nil, if_true, if_false, Bool.false_eq_true, E.den] at ha
    obtain ⟨⟨h8, k8⟩, ⟨h7, k7⟩, ⟨h6, k6⟩, _⟩ := hs
    obtain ⟨a0, a1, a2, _⟩ := ha
    refine dec_one (p := val [ρ 0, ρ 1, ρ 2, ρ 3, ρ 4, ρ 5] < q) (z := 1) ?_
    simp only [val, q, List.cons.injEq, and_true]
    omega
  · simp only [satTr_cons, satTr_nil, sv_lss, sv_leq, sv_gtr, sv_geq, sv_eql, sv_neq, sv_not, sv_beq, sv_pick, sv_add, sv_sub, sv_mul, sv_shr32, sv_shr1, sv_shl63, sv_fn, sv_eqs, E.den, List.map, K.holds] at hs
    simp only [asrOK_cons, asrOK_nil, if_true, if_false, Bool.false_eq_true, E.den] at ha
    obtain ⟨⟨h10, k10⟩, ⟨h9, k9⟩, ⟨h8, k8⟩, ⟨h7, k7⟩, ⟨h6, k6⟩, _⟩ := hs
    obtain ⟨a0, a1, a2, a3, a4, _⟩ := ha
    refine dec_one (p := val [ρ 0, ρ 1, ρ 2, ρ 3, ρ 4, ρ 5] < q) (z := 1) ?_
    simp only [val, q, List.cons.injEq, and_true]
    omega
  · simp only [satTr_cons, satTr_nil, sv_lss, sv_leq, sv_gtr, sv_geq, sv_eql, sv_neq, sv_not, sv_beq, sv_pick, sv_add, sv_sub, sv_mul, sv_shr32, sv_shr1, sv_shl63, sv_fn, sv_eqs, E.den, List.map, K.holds] at hs
    simp only [asrOK_cons, asrOK_nil, if_true, if_false, Bool.false_eq_true, E.den] at ha
    obtain ⟨⟨h12, k12⟩, ⟨h11, k11⟩, ⟨h10, k10⟩, ⟨h9, k9⟩, ⟨h8, k8⟩, ⟨h7, k7⟩, ⟨h6, k6⟩, _⟩ := hs
    obtain ⟨a0, a1, a2, a3, a4, a5, a6, _⟩ := ha
    refine dec_one (p := val [ρ 0, ρ 1, ρ 2, ρ 3, ρ 4, ρ 5] < q) (z := 1) ?_
    simp only [val, q, List.cons.injEq, and_true]
    omega
  · simp only [satTr_cons, satTr_nil, sv_lss, sv_leq, sv_gtr, sv_geq, sv_eql, sv_neq, sv_not, sv_beq, sv_pick, sv_add, sv_sub, sv_mul, sv_shr32, sv_shr1, sv_shl63, sv_fn, sv_eqs, E.den, List.map, K.holds] at hs
    simp only [asrOK_cons, asrOK_nil, if_true, if_false, Bool.false_eq_true, E.den] at ha
    obtain ⟨⟨h14, k14⟩, ⟨h13, k13⟩, ⟨h12, k12⟩, ⟨h11, k11⟩, ⟨h10, k10⟩, ⟨h9, k9⟩, ⟨h8, k8⟩, ⟨h7, k7⟩, ⟨h6, k6⟩, _⟩ := hs
    obtain ⟨a0, a1, a2, a3, a4, a5, a6, a7, a8, _⟩ := ha
    refine dec_one (p := val [ρ 0, ρ 1, ρ 2, ρ 3, ρ 4, ρ 5] < q) (z := 1) ?_
    simp only [val, q, List.cons.injEq, and_true]
    omega
  · simp only [satTr_cons, satTr_nil, sv_lss, sv_leq, sv_gtr, sv_geq, sv_eql, sv_neq, sv_not, sv_beq, sv_pick, sv_add, sv_sub, sv_mul, sv_shr32, sv_shr1, sv_shl63, sv_fn, sv_eqs, E.den, List.map, K.holds] at hs
    simp only [asrOK_cons, asrOK_nil, if_true, if_false, Bool.false_eq_true, E.den] at ha
    obtain ⟨⟨h16, k16⟩, ⟨h15, k15⟩, ⟨h14, k14⟩, ⟨h13, k13⟩, ⟨h12, k12⟩, ⟨h11, k11⟩, ⟨h10, k10⟩, ⟨h9, k9⟩, ⟨h8, k8⟩, ⟨h7, k7⟩, ⟨h6, k6⟩, _⟩ := hs
    obtain ⟨a0, a1, a2, a3, a4, a5, a6, a7, a8, a9, _⟩ := ha
    refine dec_one (p := val [ρ 0, ρ 1, ρ 2, ρ 3, ρ 4, ρ 5] < q) (z := ρ 16) ?_
    simp only [val, q, List.cons.injEq, and_true]
    omega
  · simp only [satTr_cons, satTr_nil, sv_lss, sv_leq, sv_gtr, sv_geq, sv_eql, sv_neq, sv_not, sv_beq, sv_pick, sv_add, sv_sub, sv_mul, sv_shr32, sv_shr1, sv_shl63, sv_fn, sv_eqs, E.den, List.map, K.holds] at hs
    simp only [asrOK_cons, asrOK_nil, if_true, if_false, Bool.false_eq_true, E.den] at ha
    obtain ⟨⟨h15, k15⟩, ⟨h14, k14⟩, ⟨h13, k13⟩, ⟨h12, k12⟩, ⟨h11, k11⟩, ⟨h10, k10⟩, ⟨h9, k9⟩, ⟨h8, k8⟩, ⟨h7, k7⟩, ⟨h6, k6⟩, _⟩ := hs
    obtain ⟨a0, a1, a2, a3, a4, a5, a6, a7, a8, a9, _⟩ := ha
    refine dec_one (p := val [ρ 0, ρ 1, ρ 2, ρ 3, ρ 4, ρ 5] < q) (z := 0) ?_
    simp only [val, q, List.cons.injEq, and_true]
    omega
  · simp only [satTr_cons, satTr_nil, sv_lss, sv_leq, sv_gtr, sv_geq, sv_eql, sv_neq, sv_not, sv_beq, sv_pick, sv_add, sv_sub, sv_mul, sv_shr32, sv_shr1, sv_shl63, sv_fn, sv_eqs, E.den, List.map, K.holds] at hs
    simp only [asrOK_cons, asrOK_nil, if_true, if_false, Bool.false_eq_true, E.den] at ha
    obtain ⟨⟨h13, k13⟩, ⟨h12, k12⟩, ⟨h11, k11⟩, ⟨h10, k10⟩, ⟨h9, k9⟩, ⟨h8, k8⟩, ⟨h7, k7⟩, ⟨h6, k6⟩, _⟩ := hs
    obtain ⟨a0, a1, a2, a3, a4, a5, a6, a7, _⟩ := ha
    refine dec_one (p := val [ρ 0, ρ 1, ρ 2, ρ 3, ρ 4, ρ 5] < q) (z := 0) ?_
    simp only [val, q, List.cons.injEq, and_true]
    omega
  · simp only [satTr_cons, satTr_nil, sv_lss, sv_leq, sv_gtr, sv_geq, sv_eql, sv_neq, sv_not, sv_beq, sv_pick, sv_add, sv_sub, sv_mul, sv_shr32, sv_shr1, sv_shl63, sv_fn, sv_eqs, E.den, List.map, K.holds] at hs
    simp only [asrOK_cons, asrOK_nil, if_true, if_false, Bool.false_eq_true, E.den] at ha
    obtain ⟨⟨h11, k11⟩, ⟨h10, k10⟩, ⟨h9, k9⟩, ⟨h8, k8⟩, ⟨h7, k7⟩, ⟨h6, k6⟩, _⟩ := hs
    obtain ⟨a0, a1, a2, a3, a4, a5, _⟩ := ha
    refine dec_one (p := val [ρ 0, ρ 1, ρ 2, ρ 3, ρ 4, ρ 5] < q) (z := 0) ?_
    simp only [val, q, List.cons.injEq, and_true]
    omega
  · simp only [satTr_cons, satTr_nil, sv_lss, sv_leq, sv_gtr, sv_geq, sv_eql, sv_neq, sv_not, sv_beq, sv_pick, sv_add, sv_sub, sv_mul, sv_shr32, sv_shr1, sv_shl63, sv_fn, sv_eqs, E.den, List.map, K.holds] at hs
    simp only [asrOK_cons, asrOK_nil, if_true, if_false, Bool.false_eq_true, E.den] at ha
    obtain ⟨⟨h9, k9⟩, ⟨h8, k8⟩, ⟨h7, k7⟩, ⟨h6, k6⟩, _⟩ := hs
    obtain ⟨a0, a1, a2, a3, _⟩ := ha
    refine dec_one (p := val [ρ 0, ρ 1, ρ 2, ρ 3, ρ 4, ρ 5] < q) (z := 0) ?_
    simp only [val, q, List.cons.injEq, and_true]
    omega
  · simp only [satTr_cons, satTr_nil, sv_lss, sv_leq, sv_gtr, sv_geq, sv_eql, sv_neq, sv_not, sv_beq, sv_pick, sv_add, sv_sub, sv_mul, sv_shr32, sv_shr1, sv_shl63, sv_fn, sv_eqs, E.den, List.map, K.holds] at hs
    simp only [asrOK_cons, asrOK_nil, if_true, if_false, Bool.false_eq_true, E.den] at ha
    obtain ⟨⟨h7, k7⟩, ⟨h6, k6⟩, _⟩ := hs
    obtain ⟨a0, a1, _⟩ := ha
    refine dec_one (p := val [ρ 0, ρ 1, ρ 2, ρ 3, ρ 4, ρ 5] < q) (z := 0) ?_
    simp only [val, q, List.cons.injEq, and_true]
    omega

/-! ### fmg -/
def su_fmg : Summ := ⟨[.ptr 6], (some 0), []⟩
def t_fmg0 : CT := .leaf ⟨[(97, .i .u64, .pick (.v 79) (.v 90) (.v 76)),
    (96, .i .u64, .pick (.v 79) (.v 88) (.v 77)),
    (95, .i .u64, .pick (.v 79) (.v 86) (.v 75)),
    (94, .i .u64, .pick (.v 79) (.v 84) (.v 73)),
    (93, .i .u64, .pick (.v 79) (.v 82) (.v 71)),
    (92, .i .u64, .pick (.v 79) (.v 80) (.v 69)),
    (91, .bit, .fn 34 [.v 76, .c 1873798617647539866, .v 89] 1),
    (90, .i .u64, .fn 34 [.v 76, .c 1873798617647539866, .v 89] 0),
    (89, .bit, .fn 34 [.v 77, .c 5412103778470702295, .v 87] 1),
    (88, .i .u64, .fn 34 [.v 77, .c 5412103778470702295, .v 87] 0),
    (87, .bit, .fn 34 [.v 75, .c 7239337960414712511, .v 85] 1),
    (86, .i .u64, .fn 34 [.v 75, .c 7239337960414712511, .v 85] 0),
    (85, .bit, .fn 34 [.v 73, .c 7435674573564081700, .v 83] 1),
    (84, .i .u64, .fn 34 [.v 73, .c 7435674573564081700, .v 83] 0),
    (83, .bit, .fn 34 [.v 71, .c 2210141511517208575, .v 81] 1),
    (82, .i .u64, .fn 34 [.v 71, .c 2210141511517208575, .v 81] 0),
    (81, .bit, .fn 34 [.v 69, .c 13402431016077863595, .c 0] 1),
    (80, .i .u64, .fn 34 [.v 69, .c 13402431016077863595, .c 0] 0),
    (79, .bool, .not (.v 78)),
    (78, .bool, .fn 33 [.v 69, .v 71, .v 73, .v 75, .v 77, .v 76] 0),
    (77, .i .u64, .fn 32 [.v 66, .c 1873798617647539866, .v 64, .v 74] 1),
    (76, .i .u64, .fn 32 [.v 66, .c 1873798617647539866, .v 64, .v 74] 0),
    (75, .i .u64, .fn 32 [.v 66, .c 5412103778470702295, .v 65, .v 72] 1),
    (74, .i .u64, .fn 32 [.v 66, .c 5412103778470702295, .v 65, .v 72] 0),
    (73, .i .u64, .fn 32 [.v 66, .c 7239337960414712511, .v 63, .v 70] 1),
    (72, .i .u64, .fn 32 [.v 66, .c 7239337960414712511, .v 63, .v 70] 0),
    (71, .i .u64, .fn 32 [.v 66, .c 7435674573564081700, .v 61, .v 68] 1),
    (70, .i .u64, .fn 32 [.v 66, .c 7435674573564081700, .v 61, .v 68] 0),
    (69, .i .u64, .fn 32 [.v 66, .c 2210141511517208575, .v 59, .v 67] 1),
    (68, .i .u64, .fn 32 [.v 66, .c 2210141511517208575, .v 59, .v 67] 0),
    (67, .i .u64, .fn 31 [.v 66, .c 13402431016077863595, .v 57] 0),
    (66, .i .u64, .bin .mul .u64 (.v 57) (.c 9940570264628428797)),
    (65, .i .u64, .fn 32 [.v 54, .c 1873798617647539866, .v 52, .v 62] 1),
    (64, .i .u64, .fn 32 [.v 54, .c 1873798617647539866, .v 52, .v 62] 0),
    (63, .i .u64, .fn 32 [.v 54, .c 5412103778470702295, .v 53, .v 60] 1),
    (62, .i .u64, .fn 32 [.v 54, .c 5412103778470702295, .v 53, .v 60] 0),
    (61, .i .u64, .fn 32 [.v 54, .c 7239337960414712511, .v 51, .v 58] 1),
    (60, .i .u64, .fn 32 [.v 54, .c 7239337960414712511, .v 51, .v 58] 0),
    (59, .i .u64, .fn 32 [.v 54, .c 7435674573564081700, .v 49, .v 56] 1),
    (58, .i .u64, .fn 32 [.v 54, .c 7435674573564081700, .v 49, .v 56] 0),
    (57, .i .u64, .fn 32 [.v 54, .c 2210141511517208575, .v 47, .v 55] 1),
    (56, .i .u64, .fn 32 [.v 54, .c 2210141511517208575, .v 47, .v 55] 0),
    (55, .i .u64, .fn 31 [.v 54, .c 13402431016077863595, .v 45] 0),
    (54, .i .u64, .bin .mul .u64 (.v 45) (.c 9940570264628428797)),
    (53, .i .u64, .fn 32 [.v 42, .c 1873798617647539866, .v 40, .v 50] 1),
    (52, .i .u64, .fn 32 [.v 42, .c 1873798617647539866, .v 40, .v 50] 0),
    (51, .i .u64, .fn 32 [.v 42, .c 5412103778470702295, .v 41, .v 48] 1),
    (50, .i .u64, .fn 32 [.v 42, .c 5412103778470702295, .v 41, .v 48] 0),
    (49, .i .u64, .fn 32 [.v 42, .c 7239337960414712511, .v 39, .v 46] 1),
    (48, .i .u64, .fn 32 [.v 42, .c 7239337960414712511, .v 39, .v 46] 0),
    (47, .i .u64, .fn 32 [.v 42, .c 7435674573564081700, .v 37, .v 44] 1),
    (46, .i .u64, .fn 32 [.v 42, .c 7435674573564081700, .v 37, .v 44] 0),
    (45, .i .u64, .fn 32 [.v 42, .c 2210141511517208575, .v 35, .v 43] 1),
    (44, .i .u64, .fn 32 [.v 42, .c 2210141511517208575, .v 35, .v 43] 0),
    (43, .i .u64, .fn 31 [.v 42, .c 13402431016077863595, .v 33] 0),
    (42, .i .u64, .bin .mul .u64 (.v 33) (.c 9940570264628428797)),
    (41, .i .u64, .fn 32 [.v 30, .c 1873798617647539866, .v 28, .v 38] 1),
    (40, .i .u64, .fn 32 [.v 30, .c 1873798617647539866, .v 28, .v 38] 0),
    (39, .i .u64, .fn 32 [.v 30, .c 5412103778470702295, .v 29, .v 36] 1),
    (38, .i .u64, .fn 32 [.v 30, .c 5412103778470702295, .v 29, .v 36] 0),
    (37, .i .u64, .fn 32 [.v 30, .c 7239337960414712511, .v 27, .v 34] 1),
    (36, .i .u64, .fn 32 [.v 30, .c 7239337960414712511, .v 27, .v 34] 0),
    (35, .i .u64, .fn 32 [.v 30, .c 7435674573564081700, .v 25, .v 32] 1),
    (34, .i .u64, .fn 32 [.v 30, .c 7435674573564081700, .v 25, .v 32] 0),
    (33, .i .u64, .fn 32 [.v 30, .c 2210141511517208575, .v 23, .v 31] 1),
    (32, .i .u64, .fn 32 [.v 30, .c 2210141511517208575, .v 23, .v 31] 0),
    (31, .i .u64, .fn 31 [.v 30, .c 13402431016077863595, .v 21] 0),
    (30, .i .u64, .bin .mul .u64 (.v 21) (.c 9940570264628428797)),
    (29, .i .u64, .fn 32 [.v 18, .c 1873798617647539866, .v 16, .v 26] 1),
    (28, .i .u64, .fn 32 [.v 18, .c 1873798617647539866, .v 16, .v 26] 0),
    (27, .i .u64, .fn 32 [.v 18, .c 5412103778470702295, .v 17, .v 24] 1),
    (26, .i .u64, .fn 32 [.v 18, .c 5412103778470702295, .v 17, .v 24] 0),
    (25, .i .u64, .fn 32 [.v 18, .c 7239337960414712511, .v 15, .v 22] 1),
    (24, .i .u64, .fn 32 [.v 18, .c 7239337960414712511, .v 15, .v 22] 0),
    (23, .i .u64, .fn 32 [.v 18, .c 7435674573564081700, .v 13, .v 20] 1),
    (22, .i .u64, .fn 32 [.v 18, .c 7435674573564081700, .v 13, .v 20] 0),
    (21, .i .u64, .fn 32 [.v 18, .c 2210141511517208575, .v 11, .v 19] 1),
    (20, .i .u64, .fn 32 [.v 18, .c 2210141511517208575, .v 11, .v 19] 0),
    (19, .i .u64, .fn 31 [.v 18, .c 13402431016077863595, .v 9] 0),
    (18, .i .u64, .bin .mul .u64 (.v 9) (.c 9940570264628428797)),
    (17, .i .u64, .fn 32 [.v 6, .c 1873798617647539866, .v 5, .v 14] 1),
    (16, .i .u64, .fn 32 [.v 6, .c 1873798617647539866, .v 5, .v 14] 0),
    (15, .i .u64, .fn 32 [.v 6, .c 5412103778470702295, .v 4, .v 12] 1),
    (14, .i .u64, .fn 32 [.v 6, .c 5412103778470702295, .v 4, .v 12] 0),
    (13, .i .u64, .fn 32 [.v 6, .c 7239337960414712511, .v 3, .v 10] 1),
    (12, .i .u64, .fn 32 [.v 6, .c 7239337960414712511, .v 3, .v 10] 0),
    (11, .i .u64, .fn 32 [.v 6, .c 7435674573564081700, .v 2, .v 8] 1),
    (10, .i .u64, .fn 32 [.v 6, .c 7435674573564081700, .v 2, .v 8] 0),
    (9, .i .u64, .fn 32 [.v 6, .c 2210141511517208575, .v 1, .v 7] 1),
    (8, .i .u64, .fn 32 [.v 6, .c 2210141511517208575, .v 1, .v 7] 0),
    (7, .i .u64, .fn 31 [.v 6, .c 13402431016077863595, .v 0] 0),
    (6, .i .u64, .bin .mul .u64 (.v 0) (.c 9940570264628428797))],
    [], [.v 92, .v 93, .v 94, .v 95, .v 96, .v 97]⟩
theorem chk_fmg : checkFn Try.prog [(31, su_madd0), (32, su_madd2), (33, su_small), (34, addSub)] su_fmg 400 Try.f30 (fun _ => t_fmg0) = true := by kernel_rfl
theorem ok_fmg : SummOK Try.prog 30 su_fmg (Phi 30) := by
  refine summ_fn (Φ := Phi) 400 (fun _ => t_fmg0) Try.func30 (tbl_cons ok_madd0 (tbl_cons ok_madd2 (tbl_cons ok_small (tbl_cons ok_sub64 tbl_nil)))) chk_fmg ?_
  intro al hal l hl ρ hk hs ha
  have hn : su_fmg.inKinds.length = 6 := rfl
  have hr : row ρ 6 = [ρ 0, ρ 1, ρ 2, ρ 3, ρ 4, ρ 5] := rfl
  rw [hn, hr] at hk ⊢
  simp only [su_fmg, Summ.inKinds, List.flatMap_cons, List.flatMap_nil, List.replicate, List.cons_append, List.nil_append, List.append_nil, holdsAll, K.holds] at hk
  obtain ⟨b0, b1, b2, b3, b4, b5, _⟩ := hk
  simp only [t_fmg0, CT.leaves, List.cons_append, List.nil_append, List.mem_cons, List.not_mem_nil, or_false] at hl
  subst hl
  simp only [satTr_cons, satTr_nil, sv_lss, sv_leq, sv_gtr, sv_geq, sv_eql, sv_neq, sv_not, sv_beq, sv_pick, sv_add, sv_sub, sv_mul, sv_shr32, sv_shr1, sv_shl63, sv_fn, sv_eqs, E.den, List.map, K.holds] at hs
  simp only [asrOK_cons, asrOK_nil, if_true, if_false, Bool.false_eq_true, E.den] at ha
  obtain ⟨⟨h97, k97⟩, ⟨h96, k96⟩, ⟨h95, k95⟩, ⟨h94, k94⟩, ⟨h93, k93⟩, ⟨h92, k92⟩, ⟨h91, k91⟩, ⟨h90, k90⟩, ⟨h89, k89⟩, ⟨h88, k88⟩, ⟨h87, k87⟩, ⟨h86, k86⟩, ⟨h85, k85⟩, ⟨h84, k84⟩, ⟨h83, k83⟩, ⟨h82, k82⟩, ⟨h81, k81⟩, ⟨h80, k80⟩, ⟨h79, k79⟩, ⟨h78, k78⟩, ⟨h77, k77⟩, ⟨h76, k76⟩, ⟨h75, k75⟩, ⟨h74, k74⟩, ⟨h73, k73⟩, ⟨h72, k72⟩, ⟨h71, k71⟩, ⟨h70, k70⟩, ⟨h69, k69⟩, ⟨h68, k68⟩, ⟨h67, k67⟩, ⟨h66, k66⟩, ⟨h65, k65⟩, ⟨h64, k64⟩, ⟨h63, k63⟩, ⟨h62, k62⟩, ⟨h61, k61⟩, ⟨h60, k60⟩, ⟨h59, k59⟩, ⟨h58, k58⟩, ⟨h57, k57⟩, ⟨h56, k56⟩, ⟨h55, k55⟩, ⟨h54, k54⟩, ⟨h53, k53⟩, ⟨h52, k52⟩, ⟨h51, k51⟩, ⟨h50, k50⟩, ⟨h49, k49⟩, ⟨h48, k48⟩, ⟨h47, k47⟩, ⟨h46, k46⟩, ⟨h45, k45⟩, ⟨h44, k44⟩, ⟨h43, k43⟩, ⟨h42, k42⟩, ⟨h41, k41⟩, ⟨h40, k40⟩, ⟨h39, k39⟩, ⟨h38, k38⟩, ⟨h37, k37⟩, ⟨h36, k36⟩, ⟨h35, k35⟩, ⟨h34, k34⟩, ⟨h33, k33⟩, ⟨h32, k32⟩, ⟨h31, k31⟩, ⟨h30, k30⟩, ⟨h29, k29⟩, ⟨h28, k28⟩, ⟨h27, k27⟩, ⟨h26, k26⟩, ⟨h25, k25⟩, ⟨h24, k24⟩, ⟨h23, k23⟩, ⟨h22, k22⟩, ⟨h21, k21⟩, ⟨h20, k20⟩, ⟨h19, k19⟩, ⟨h18, k18⟩, ⟨h17, k17⟩, ⟨h16, k16⟩, ⟨h15, k15⟩, ⟨h14, k14⟩, ⟨h13, k13⟩, ⟨h12, k12⟩, ⟨h11, k11⟩, ⟨h10, k10⟩, ⟨h9, k9⟩, ⟨h8, k8⟩, ⟨h7, k7⟩, ⟨h6, k6⟩, _⟩ := hs
  clear ha
  have g7 : ρ 7 = (ρ 6 * 13402431016077863595 + ρ 0) / 18446744073709551616 := h7
  have g8 : ρ 8 = (ρ 6 * 2210141511517208575 + ρ 1 + ρ 7) / 18446744073709551616 := h8
  have g9 : ρ 9 = (ρ 6 * 2210141511517208575 + ρ 1 + ρ 7) % 18446744073709551616 := h9
  have g10 : ρ 10 = (ρ 6 * 7435674573564081700 + ρ 2 + ρ 8) / 18446744073709551616 := h10
  have g11 : ρ 11 = (ρ 6 * 7435674573564081700 + ρ 2 + ρ 8) % 18446744073709551616 := h11
  have g12 : ρ 12 = (ρ 6 * 7239337960414712511 + ρ 3 + ρ 10) / 18446744073709551616 := h12
  have g13 : ρ 13 = (ρ 6 * 7239337960414712511 + ρ 3 + ρ 10) % 18446744073709551616 := h13
  have g14 : ρ 14 = (ρ 6 * 5412103778470702295 + ρ 4 + ρ 12) / 18446744073709551616 := h14
  have g15 : ρ 15 = (ρ 6 * 5412103778470702295 + ρ 4 + ρ 12) % 18446744073709551616 := h15
  have g16 : ρ 16 = (ρ 6 * 1873798617647539866 + ρ 5 + ρ 14) / 18446744073709551616 := h16
  have g17 : ρ 17 = (ρ 6 * 1873798617647539866 + ρ 5 + ρ 14) % 18446744073709551616 := h17
  have g19 : ρ 19 = (ρ 18 * 13402431016077863595 + ρ 9) / 18446744073709551616 := h19
  have g20 : ρ 20 = (ρ 18 * 2210141511517208575 + ρ 11 + ρ 19) / 18446744073709551616 := h20
  have g21 : ρ 21 = (ρ 18 * 2210141511517208575 + ρ 11 + ρ 19) % 18446744073709551616 := h21
  have g22 : ρ 22 = (ρ 18 * 7435674573564081700 + ρ 13 + ρ 20) / 18446744073709551616 := h22
  have g23 : ρ 23 = (ρ 18 * 7435674573564081700 + ρ 13 + ρ 20) % 18446744073709551616 := h23
  have g24 : ρ 24 = (ρ 18 * 7239337960414712511 + ρ 15 + ρ 22) / 18446744073709551616 := h24
  have g25 : ρ 25 = (ρ 18 * 7239337960414712511 + ρ 15 + ρ 22) % 18446744073709551616 := h25
  have g26 : ρ 26 = (ρ 18 * 5412103778470702295 + ρ 17 + ρ 24) / 18446744073709551616 := h26
  have g27 : ρ 27 = (ρ 18 * 5412103778470702295 + ρ 17 + ρ 24) % 18446744073709551616 := h27
  have g28 : ρ 28 = (ρ 18 * 1873798617647539866 + ρ 16 + ρ 26) / 18446744073709551616 := h28
  have g29 : ρ 29 = (ρ 18 * 1873798617647539866 + ρ 16 + ρ 26) % 18446744073709551616 := h29
  have g31 : ρ 31 = (ρ 30 * 13402431016077863595 + ρ 21) / 18446744073709551616 := h31
  have g32 : ρ 32 = (ρ 30 * 2210141511517208575 + ρ 23 + ρ 31) / 18446744073709551616 := h32
  have g33 : ρ 33 = (ρ 30 * 2210141511517208575 + ρ 23 + ρ 31) % 18446744073709551616 := h33
  have g34 : ρ 34 = (ρ 30 * 7435674573564081700 + ρ 25 + ρ 32) / 18446744073709551616 := h34
  have g35 : ρ 35 = (ρ 30 * 7435674573564081700 + ρ 25 + ρ 32) % 18446744073709551616 := h35
  have g36 : ρ 36 = (ρ 30 * 7239337960414712511 + ρ 27 + ρ 34) / 18446744073709551616 := h36
  have g37 : ρ 37 = (ρ 30 * 7239337960414712511 + ρ 27 + ρ 34) % 18446744073709551616 := h37
  have g38 : ρ 38 = (ρ 30 * 5412103778470702295 + ρ 29 + ρ 36) / 18446744073709551616 := h38
  have g39 : ρ 39 = (ρ 30 * 5412103778470702295 + ρ 29 + ρ 36) % 18446744073709551616 := h39
  have g40 : ρ 40 = (ρ 30 * 1873798617647539866 + ρ 28 + ρ 38) / 18446744073709551616 := h40
  have g41 : ρ 41 = (ρ 30 * 1873798617647539866 + ρ 28 + ρ 38) % 18446744073709551616 := h41
  have g43 : ρ 43 = (ρ 42 * 13402431016077863595 + ρ 33) / 18446744073709551616 := h43
  have g44 : ρ 44 = (ρ 42 * 2210141511517208575 + ρ 35 + ρ 43) / 18446744073709551616 := h44
  have g45 : ρ 45 = (ρ 42 * 2210141511517208575 + ρ 35 + ρ 43) % 18446744073709551616 := h45
  have g46 : ρ 46 = (ρ 42 * 7435674573564081700 + ρ 37 + ρ 44) / 18446744073709551616 := h46
  have g47 : ρ 47 = (ρ 42 * 7435674573564081700 + ρ 37 + ρ 44) % 18446744073709551616 := h47
  have g48 : ρ 48 = (ρ 42 * 7239337960414712511 + ρ 39 + ρ 46) / 18446744073709551616 := h48
  have g49 : ρ 49 = (ρ 42 * 7239337960414712511 + ρ 39 + ρ 46) % 18446744073709551616 := h49
  have g50 : ρ 50 = (ρ 42 * 5412103778470702295 + ρ 41 + ρ 48) / 18446744073709551616 := h50
  have g51 : ρ 51 = (ρ 42 * 5412103778470702295 + ρ 41 + ρ 48) % 18446744073709551616 := h51
  have g52 : ρ 52 = (ρ 42 * 1873798617647539866 + ρ 40 + ρ 50) / 18446744073709551616 := h52
  have g53 : ρ 53 = (ρ 42 * 1873798617647539866 + ρ 40 + ρ 50) % 18446744073709551616 := h53
  have g55 : ρ 55 = (ρ 54 * 13402431016077863595 + ρ 45) / 18446744073709551616 := h55
  have g56 : ρ 56 = (ρ 54 * 2210141511517208575 + ρ 47 + ρ 55) / 18446744073709551616 := h56
  have g57 : ρ 57 = (ρ 54 * 2210141511517208575 + ρ 47 + ρ 55) % 18446744073709551616 := h57
  have g58 : ρ 58 = (ρ 54 * 7435674573564081700 + ρ 49 + ρ 56) / 18446744073709551616 := h58
  have g59 : ρ 59 = (ρ 54 * 7435674573564081700 + ρ 49 + ρ 56) % 18446744073709551616 := h59
  have g60 : ρ 60 = (ρ 54 * 7239337960414712511 + ρ 51 + ρ 58) / 18446744073709551616 := h60
  have g61 : ρ 61 = (ρ 54 * 7239337960414712511 + ρ 51 + ρ 58) % 18446744073709551616 := h61
  have g62 : ρ 62 = (ρ 54 * 5412103778470702295 + ρ 53 + ρ 60) / 18446744073709551616 := h62
  have g63 : ρ 63 = (ρ 54 * 5412103778470702295 + ρ 53 + ρ 60) % 18446744073709551616 := h63
  have g64 : ρ 64 = (ρ 54 * 1873798617647539866 + ρ 52 + ρ 62) / 18446744073709551616 := h64
  have g65 : ρ 65 = (ρ 54 * 1873798617647539866 + ρ 52 + ρ 62) % 18446744073709551616 := h65
  have g67 : ρ 67 = (ρ 66 * 13402431016077863595 + ρ 57) / 18446744073709551616 := h67
  have g68 : ρ 68 = (ρ 66 * 2210141511517208575 + ρ 59 + ρ 67) / 18446744073709551616 := h68
  have g69 : ρ 69 = (ρ 66 * 2210141511517208575 + ρ 59 + ρ 67) % 18446744073709551616 := h69
  have g70 : ρ 70 = (ρ 66 * 7435674573564081700 + ρ 61 + ρ 68) / 18446744073709551616 := h70
  have g71 : ρ 71 = (ρ 66 * 7435674573564081700 + ρ 61 + ρ 68) % 18446744073709551616 := h71
  have g72 : ρ 72 = (ρ 66 * 7239337960414712511 + ρ 63 + ρ 70) / 18446744073709551616 := h72
  have g73 : ρ 73 = (ρ 66 * 7239337960414712511 + ρ 63 + ρ 70) % 18446744073709551616 := h73
  have g74 : ρ 74 = (ρ 66 * 5412103778470702295 + ρ 65 + ρ 72) / 18446744073709551616 := h74
  have g75 : ρ 75 = (ρ 66 * 5412103778470702295 + ρ 65 + ρ 72) % 18446744073709551616 := h75
  have g76 : ρ 76 = (ρ 66 * 1873798617647539866 + ρ 64 + ρ 74) / 18446744073709551616 := h76
  have g77 : ρ 77 = (ρ 66 * 1873798617647539866 + ρ 64 + ρ 74) % 18446744073709551616 := h77
  have e78 : ρ 78 = b2i (decide (val [ρ 69, ρ 71, ρ 73, ρ 75, ρ 77, ρ 76] < q)) := h78
  rw [st_dec] at e78
  have r80 : ρ 80 - 18446744073709551616 * ρ 81 = ρ 69 - 13402431016077863595 - 0 := sbb k69 (by decide) (by decide) h80 h81
  have r82 : ρ 82 - 18446744073709551616 * ρ 83 = ρ 71 - 2210141511517208575 - ρ 81 := sbb k71 (by decide) k81 h82 h83
  have r84 : ρ 84 - 18446744073709551616 * ρ 85 = ρ 73 - 7435674573564081700 - ρ 83 := sbb k73 (by decide) k83 h84 h85
  have r86 : ρ 86 - 18446744073709551616 * ρ 87 = ρ 75 - 7239337960414712511 - ρ 85 := sbb k75 (by decide) k85 h86 h87
  have r88 : ρ 88 - 18446744073709551616 * ρ 89 = ρ 77 - 5412103778470702295 - ρ 87 := sbb k77 (by decide) k87 h88 h89
  have r90 : ρ 90 - 18446744073709551616 * ρ 91 = ρ 76 - 1873798617647539866 - ρ 89 := sbb k76 (by decide) k89 h90 h91
  have hqw : val [13402431016077863595, 2210141511517208575, 7435674573564081700, 7239337960414712511, 5412103778470702295, 1873798617647539866] = q := by kernel_rfl
  have f6 : 18446744073709551616 * ρ 7 = ρ 6 * 13402431016077863595 + ρ 0 := mont_first (k := 7222293901829252101) h6 g7 (by decide)
  have f8 : ρ 9 + 18446744073709551616 * ρ 8 = ρ 6 * 2210141511517208575 + ρ 1 + ρ 7 := mont_word g8 g9
  have f10 : ρ 11 + 18446744073709551616 * ρ 10 = ρ 6 * 7435674573564081700 + ρ 2 + ρ 8 := mont_word g10 g11
  have f12 : ρ 13 + 18446744073709551616 * ρ 12 = ρ 6 * 7239337960414712511 + ρ 3 + ρ 10 := mont_word g12 g13
  have f14 : ρ 15 + 18446744073709551616 * ρ 14 = ρ 6 * 5412103778470702295 + ρ 4 + ρ 12 := mont_word g14 g15
  have f16 : ρ 17 + 18446744073709551616 * ρ 16 = ρ 6 * 1873798617647539866 + ρ 5 + ρ 14 := mont_word g16 g17
  have v0 : 18446744073709551616 * val [ρ 9, ρ 11, ρ 13, ρ 15, ρ 17, ρ 16] = val [ρ 0, ρ 1, ρ 2, ρ 3, ρ 4, ρ 5] + ρ 6 * q := by rw [← hqw]; exact mont_round6 f6 f8 f10 f12 f14 f16
  have f18 : 18446744073709551616 * ρ 19 = ρ 18 * 13402431016077863595 + ρ 9 := mont_first (k := 7222293901829252101) h18 g19 (by decide)
  have f20 : ρ 21 + 18446744073709551616 * ρ 20 = ρ 18 * 2210141511517208575 + ρ 11 + ρ 19 := mont_word g20 g21
  have f22 : ρ 23 + 18446744073709551616 * ρ 22 = ρ 18 * 7435674573564081700 + ρ 13 + ρ 20 := mont_word g22 g23
  have f24 : ρ 25 + 18446744073709551616 * ρ 24 = ρ 18 * 7239337960414712511 + ρ 15 + ρ 22 := mont_word g24 g25
  have f26 : ρ 27 + 18446744073709551616 * ρ 26 = ρ 18 * 5412103778470702295 + ρ 17 + ρ 24 := mont_word g26 g27
  have f28 : ρ 29 + 18446744073709551616 * ρ 28 = ρ 18 * 1873798617647539866 + ρ 16 + ρ 26 := mont_word g28 g29
  have v1 : 18446744073709551616 * val [ρ 21, ρ 23, ρ 25, ρ 27, ρ 29, ρ 28] = val [ρ 9, ρ 11, ρ 13, ρ 15, ρ 17, ρ 16] + ρ 18 * q := by rw [← hqw]; exact mont_round6 f18 f20 f22 f24 f26 f28
  have f30 : 18446744073709551616 * ρ 31 = ρ 30 * 13402431016077863595 + ρ 21 := mont_first (k := 7222293901829252101) h30 g31 (by decide)
  have f32 : ρ 33 + 18446744073709551616 * ρ 32 = ρ 30 * 2210141511517208575 + ρ 23 + ρ 31 := mont_word g32 g33
  have f34 : ρ 35 + 18446744073709551616 * ρ 34 = ρ 30 * 7435674573564081700 + ρ 25 + ρ 32 := mont_word g34 g35
  have f36 : ρ 37 + 18446744073709551616 * ρ 36 = ρ 30 * 7239337960414712511 + ρ 27 + ρ 34 := mont_word g36 g37
  have f38 : ρ 39 + 18446744073709551616 * ρ 38 = ρ 30 * 5412103778470702295 + ρ 29 + ρ 36 := mont_word g38 g39
  have f40 : ρ 41 + 18446744073709551616 * ρ 40 = ρ 30 * 1873798617647539866 + ρ 28 + ρ 38 := mont_word g40 g41
  have v2 : 18446744073709551616 * val [ρ 33, ρ 35, ρ 37, ρ 39, ρ 41, ρ 40] = val [ρ 21, ρ 23, ρ 25, ρ 27, ρ 29, ρ 28] + ρ 30 * q := by rw [← hqw]; exact mont_round6 f30 f32 f34 f36 f38 f40
  have f42 : 18446744073709551616 * ρ 43 = ρ 42 * 13402431016077863595 + ρ 33 := mont_first (k := 7222293901829252101) h42 g43 (by decide)
  have f44 : ρ 45 + 18446744073709551616 * ρ 44 = ρ 42 * 2210141511517208575 + ρ 35 + ρ 43 := mont_word g44 g45
  have f46 : ρ 47 + 18446744073709551616 * ρ 46 = ρ 42 * 7435674573564081700 + ρ 37 + ρ 44 := mont_word g46 g47
  have f48 : ρ 49 + 18446744073709551616 * ρ 48 = ρ 42 * 7239337960414712511 + ρ 39 + ρ 46 := mont_word g48 g49
  have f50 : ρ 51 + 18446744073709551616 * ρ 50 = ρ 42 * 5412103778470702295 + ρ 41 + ρ 48 := mont_word g50 g51
  have f52 : ρ 53 + 18446744073709551616 * ρ 52 = ρ 42 * 1873798617647539866 + ρ 40 + ρ 50 := mont_word g52 g53
  have v3 : 18446744073709551616 * val [ρ 45, ρ 47, ρ 49, ρ 51, ρ 53, ρ 52] = val [ρ 33, ρ 35, ρ 37, ρ 39, ρ 41, ρ 40] + ρ 42 * q := by rw [← hqw]; exact mont_round6 f42 f44 f46 f48 f50 f52
  have f54 : 18446744073709551616 * ρ 55 = ρ 54 * 13402431016077863595 + ρ 45 := mont_first (k := 7222293901829252101) h54 g55 (by decide)
  have f56 : ρ 57 + 18446744073709551616 * ρ 56 = ρ 54 * 2210141511517208575 + ρ 47 + ρ 55 := mont_word g56 g57
  have f58 : ρ 59 + 18446744073709551616 * ρ 58 = ρ 54 * 7435674573564081700 + ρ 49 + ρ 56 := mont_word g58 g59
  have f60 : ρ 61 + 18446744073709551616 * ρ 60 = ρ 54 * 7239337960414712511 + ρ 51 + ρ 58 := mont_word g60 g61
  have f62 : ρ 63 + 18446744073709551616 * ρ 62 = ρ 54 * 5412103778470702295 + ρ 53 + ρ 60 := mont_word g62 g63
  have f64 : ρ 65 + 18446744073709551616 * ρ 64 = ρ 54 * 1873798617647539866 + ρ 52 + ρ 62 := mont_word g64 g65
  have v4 : 18446744073709551616 * val [ρ 57, ρ 59, ρ 61, ρ 63, ρ 65, ρ 64] = val [ρ 45, ρ 47, ρ 49, ρ 51, ρ 53, ρ 52] + ρ 54 * q := by rw [← hqw]; exact mont_round6 f54 f56 f58 f60 f62 f64
  have f66 : 18446744073709551616 * ρ 67 = ρ 66 * 13402431016077863595 + ρ 57 := mont_first (k := 7222293901829252101) h66 g67 (by decide)
  have f68 : ρ 69 + 18446744073709551616 * ρ 68 = ρ 66 * 2210141511517208575 + ρ 59 + ρ 67 := mont_word g68 g69
  have f70 : ρ 71 + 18446744073709551616 * ρ 70 = ρ 66 * 7435674573564081700 + ρ 61 + ρ 68 := mont_word g70 g71
  have f72 : ρ 73 + 18446744073709551616 * ρ 72 = ρ 66 * 7239337960414712511 + ρ 63 + ρ 70 := mont_word g72 g73
  have f74 : ρ 75 + 18446744073709551616 * ρ 74 = ρ 66 * 5412103778470702295 + ρ 65 + ρ 72 := mont_word g74 g75
  have f76 : ρ 77 + 18446744073709551616 * ρ 76 = ρ 66 * 1873798617647539866 + ρ 64 + ρ 74 := mont_word g76 g77
  have v5 : 18446744073709551616 * val [ρ 69, ρ 71, ρ 73, ρ 75, ρ 77, ρ 76] = val [ρ 57, ρ 59, ρ 61, ρ 63, ρ 65, ρ 64] + ρ 66 * q := by rw [← hqw]; exact mont_round6 f66 f68 f70 f72 f74 f76
  have hv : val [ρ 69, ρ 71, ρ 73, ρ 75, ρ 77, ρ 76] * big 6 = val [ρ 0, ρ 1, ρ 2, ρ 3, ρ 4, ρ 5] + val [ρ 6, ρ 18, ρ 30, ρ 42, ρ 54, ρ 66] * q := mont_all6 v0 v1 v2 v3 v4 v5
  have hd : val [ρ 80, ρ 82, ρ 84, ρ 86, ρ 88, ρ 90] - ρ 91 * big 6 = val [ρ 69, ρ 71, ρ 73, ρ 75, ρ 77, ρ 76] - q := by rw [← hqw]; exact sub_chain6 r80 r82 r84 r86 r88 r90
  change wds 6 (redM q ri (val [ρ 0, ρ 1, ρ 2, ρ 3, ρ 4, ρ 5])) = [ρ 92, ρ 93, ρ 94, ρ 95, ρ 96, ρ 97]
  refine fm_done (n := 6) (X := val [ρ 0, ρ 1, ρ 2, ρ 3, ρ 4, ρ 5]) (K := val [ρ 6, ρ 18, ρ 30, ρ 42, ρ 54, ρ 66]) (b := ρ 78) (nb := ρ 79) (d := ρ 91) (S := [ρ 69, ρ 71, ρ 73, ρ 75, ρ 77, ρ 76]) (D := [ρ 80, ρ 82, ρ 84, ρ 86, ρ 88, ρ 90]) q_pos ri_eq (val_lt (u64s_cons b0 (u64s_cons b1 (u64s_cons b2 (u64s_cons b3 (u64s_cons b4 (u64s_cons b5 u64s_nil)))))) rfl) (val_lt (u64s_cons k6 (u64s_cons k18 (u64s_cons k30 (u64s_cons k42 (u64s_cons k54 (u64s_cons k66 u64s_nil)))))) rfl) (u64s_cons k69 (u64s_cons k71 (u64s_cons k73 (u64s_cons k75 (u64s_cons k77 (u64s_cons k76 u64s_nil)))))) rfl (u64s_cons k80 (u64s_cons k82 (u64s_cons k84 (u64s_cons k86 (u64s_cons k88 (u64s_cons k90 u64s_nil)))))) rfl hv e78 h79 hd ?_
  by_cases hz : ρ 79 = 0
  · left; refine ⟨hz, ?_⟩; simp only [hz, true_and, ne_eq, not_true_eq_false, false_and, or_false] at h92 h93 h94 h95 h96 h97; rw [h92, h93, h94, h95, h96, h97]
  · right; refine ⟨hz, ?_⟩; simp only [hz, false_and, ne_eq, not_false_eq_true, true_and, false_or] at h92 h93 h94 h95 h96 h97; rw [h92, h93, h94, h95, h96, h97]

/-! ### fm -/
def su_fm : Summ := ⟨[.ptr 6], (some 0), []⟩
def t_fm0 : CT := .leaf ⟨[(11, .i .u64, .fn 30 [.v 0, .v 1, .v 2, .v 3, .v 4, .v 5] 5),
    (10, .i .u64, .fn 30 [.v 0, .v 1, .v 2, .v 3, .v 4, .v 5] 4),
    (9, .i .u64, .fn 30 [.v 0, .v 1, .v 2, .v 3, .v 4, .v 5] 3),
    (8, .i .u64, .fn 30 [.v 0, .v 1, .v 2, .v 3, .v 4, .v 5] 2),
    (7, .i .u64, .fn 30 [.v 0, .v 1, .v 2, .v 3, .v 4, .v 5] 1),
    (6, .i .u64, .fn 30 [.v 0, .v 1, .v 2, .v 3, .v 4, .v 5] 0)],
    [], [.v 6, .v 7, .v 8, .v 9, .v 10, .v 11]⟩
theorem chk_fm : checkFn Try.prog [(30, su_fmg)] su_fm 400 Try.f25 (fun _ => t_fm0) = true := by kernel_rfl
theorem ok_fm : SummOK Try.prog 25 su_fm (Phi 25) := by
  refine summ_fn (Φ := Phi) 400 (fun _ => t_fm0) Try.func25 (tbl_cons ok_fmg tbl_nil) chk_fm ?_
  intro al hal l hl ρ hk hs ha
  have hn : su_fm.inKinds.length = 6 := rfl
  have hr : row ρ 6 = [ρ 0, ρ 1, ρ 2, ρ 3, ρ 4, ρ 5] := rfl
  rw [hn, hr] at hk ⊢
  simp only [su_fm, Summ.inKinds, List.flatMap_cons, List.flatMap_nil, List.replicate, List.cons_append, List.nil_append, List.append_nil, holdsAll, K.holds] at hk
  obtain ⟨b0, b1, b2, b3, b4, b5, _⟩ := hk
  simp only [t_fm0, CT.leaves, List.cons_append, List.nil_append, List.mem_cons, List.not_mem_nil, or_false] at hl
  subst hl
  simp only [satTr_cons, satTr_nil, sv_lss, sv_leq, sv_gtr, sv_geq, sv_eql, sv_neq, sv_not, sv_beq, sv_pick, sv_add, sv_sub, sv_mul, sv_shr32, sv_shr1, sv_shl63, sv_fn, sv_eqs, E.den, List.map, K.holds] at hs
  simp only [asrOK_cons, asrOK_nil, if_true, if_false, Bool.false_eq_true, E.den] at ha
  obtain ⟨⟨h11, k11⟩, ⟨h10, k10⟩, ⟨h9, k9⟩, ⟨h8, k8⟩, ⟨h7, k7⟩, ⟨h6, k6⟩, _⟩ := hs
  clear ha
  have g6 : [ρ 6, ρ 7, ρ 8, ρ 9, ρ 10, ρ 11] = wds 6 (redM q ri (val [ρ 0, ρ 1, ρ 2, ρ 3, ρ 4, ρ 5])) := get6 rfl h6 h7 h8 h9 h10 h11
  exact g6.symm

/-! ### Bits -/
def su_Bits : Summ := ⟨[.ptr 6], none, [.agg 6]⟩
def t_Bits0 : CT := .leaf ⟨[(11, .i .u64, .fn 25 [.v 0, .v 1, .v 2, .v 3, .v 4, .v 5] 5),
    (10, .i .u64, .fn 25 [.v 0, .v 1, .v 2, .v 3, .v 4, .v 5] 4),
    (9, .i .u64, .fn 25 [.v 0, .v 1, .v 2, .v 3, .v 4, .v 5] 3),
    (8, .i .u64, .fn 25 [.v 0, .v 1, .v 2, .v 3, .v 4, .v 5] 2),
    (7, .i .u64, .fn 25 [.v 0, .v 1, .v 2, .v 3, .v 4, .v 5] 1),
    (6, .i .u64, .fn 25 [.v 0, .v 1, .v 2, .v 3, .v 4, .v 5] 0)],
    [], [.v 6, .v 7, .v 8, .v 9, .v 10, .v 11]⟩
theorem chk_Bits : checkFn Try.prog [(25, su_fm)] su_Bits 400 Try.f17 (fun _ => t_Bits0) = true := by kernel_rfl
theorem ok_Bits : SummOK Try.prog 17 su_Bits (Phi 17) := by
  refine summ_fn (Φ := Phi) 400 (fun _ => t_Bits0) Try.func17 (tbl_cons ok_fm tbl_nil) chk_Bits ?_
  intro al hal l hl ρ hk hs ha
  have hn : su_Bits.inKinds.length = 6 := rfl
  have hr : row ρ 6 = [ρ 0, ρ 1, ρ 2, ρ 3, ρ 4, ρ 5] := rfl
  rw [hn, hr] at hk ⊢
  simp only [su_Bits, Summ.inKinds, List.flatMap_cons, List.flatMap_nil, List.replicate, List.cons_append, List.nil_append, List.append_nil, holdsAll, K.holds] at hk
  obtain ⟨b0, b1, b2, b3, b4, b5, _⟩ := hk
  simp only [t_Bits0, CT.leaves, List.cons_append, List.nil_append, List.mem_cons, List.not_mem_nil, or_false] at hl
  subst hl
  simp only [satTr_cons, satTr_nil, sv_lss, sv_leq, sv_gtr, sv_geq, sv_eql, sv_neq, sv_not, sv_beq, sv_pick, sv_add, sv_sub, sv_mul, sv_shr32, sv_shr1, sv_shl63, sv_fn, sv_eqs, E.den, List.map, K.holds] at hs
  simp only [asrOK_cons, asrOK_nil, if_true, if_false, Bool.false_eq_true, E.den] at ha
  obtain ⟨⟨h11, k11⟩, ⟨h10, k10⟩, ⟨h9, k9⟩, ⟨h8, k8⟩, ⟨h7, k7⟩, ⟨h6, k6⟩, _⟩ := hs
  clear ha
  have g6 : [ρ 6, ρ 7, ρ 8, ρ 9, ρ 10, ρ 11] = wds 6 (redM q ri (val [ρ 0, ρ 1, ρ 2, ρ 3, ρ 4, ρ 5])) := get6 rfl h6 h7 h8 h9 h10 h11
  exact g6.symm

/-! ### cmp -/
def su_cmp : Summ := ⟨[.ptr 6, .ptr 6], none, [.sc (.i .i64)]⟩
def t_cmp0 : CT := .node (.v 24)
  (.leaf ⟨[(24, .bool, .cmp .gtr (.v 17) (.v 23)),
    (23, .i .u64, .fn 17 [.v 6, .v 7, .v 8, .v 9, .v 10, .v 11] 5),
    (22, .i .u64, .fn 17 [.v 6, .v 7, .v 8, .v 9, .v 10, .v 11] 4),
    (21, .i .u64, .fn 17 [.v 6, .v 7, .v 8, .v 9, .v 10, .v 11] 3),
    (20, .i .u64, .fn 17 [.v 6, .v 7, .v 8, .v 9, .v 10, .v 11] 2),
    (19, .i .u64, .fn 17 [.v 6, .v 7, .v 8, .v 9, .v 10, .v 11] 1),
    (18, .i .u64, .fn 17 [.v 6, .v 7, .v 8, .v 9, .v 10, .v 11] 0),
    (17, .i .u64, .fn 17 [.v 0, .v 1, .v 2, .v 3, .v 4, .v 5] 5),
    (16, .i .u64, .fn 17 [.v 0, .v 1, .v 2, .v 3, .v 4, .v 5] 4),
    (15, .i .u64, .fn 17 [.v 0, .v 1, .v 2, .v 3, .v 4, .v 5] 3),
    (14, .i .u64, .fn 17 [.v 0, .v 1, .v 2, .v 3, .v 4, .v 5] 2),
    (13, .i .u64, .fn 17 [.v 0, .v 1, .v 2, .v 3, .v 4, .v 5] 1),
    (12, .i .u64, .fn 17 [.v 0, .v 1, .v 2, .v 3, .v 4, .v 5] 0)],
    [(.v 24, true)], [.c 1]⟩)
  (.node (.v 25)
  (.leaf ⟨[(25, .bool, .cmp .lss (.v 17) (.v 23)),
    (24, .bool, .cmp .gtr (.v 17) (.v 23)),
    (23, .i .u64, .fn 17 [.v 6, .v 7, .v 8, .v 9, .v 10, .v 11] 5),
    (22, .i .u64, .fn 17 [.v 6, .v 7, .v 8, .v 9, .v 10, .v 11] 4),
    (21, .i .u64, .fn 17 [.v 6, .v 7, .v 8, .v 9, .v 10, .v 11] 3),
    (20, .i .u64, .fn 17 [.v 6, .v 7, .v 8, .v 9, .v 10, .v 11] 2),
    (19, .i .u64, .fn 17 [.v 6, .v 7, .v 8, .v 9, .v 10, .v 11] 1),
    (18, .i .u64, .fn 17 [.v 6, .v 7, .v 8, .v 9, .v 10, .v 11] 0),
    (17, .i .u64, .fn 17 [.v 0, .v 1, .v 2, .v 3, .v 4, .v 5] 5),
    (16, .i .u64, .fn 17 [.v 0, .v 1, .v 2, .v 3, .v 4, .v 5] 4),
    (15, .i .u64, .fn 17 [.v 0, .v 1, .v 2, .v 3, .v 4, .v 5] 3),
    (14, .i .u64, .fn 17 [.v 0, .v 1, .v 2, .v 3, .v 4, .v 5] 2),
    (13, .i .u64, .fn 17 [.v 0, .v 1, .v 2, .v 3, .v 4, .v 5] 1),
    (12, .i .u64, .fn 17 [.v 0, .v 1, .v 2, .v 3, .v 4, .v 5] 0)],
    [(.v 25, true), (.v 24, false)], [.c (-1)]⟩)
  (.node (.v 26)
  (.leaf ⟨[(26, .bool, .cmp .gtr (.v 16) (.v 22)),
    (25, .bool, .cmp .lss (.v 17) (.v 23)),
    (24, .bool, .cmp .gtr (.v 17) (.v 23)),
    (23, .i .u64, .fn 17 [.v 6, .v 7, .v 8, .v 9, .v 10, .v 11] 5),
    (22, .i .u64, .fn 17 [.v 6, .v 7, .v 8, .v 9, .v 10, .v 11] 4),
    (21, .i .u64, .fn 17 [.v 6, .v 7, .v 8, .v 9, .v 10, .v 11] 3),
    (20, .i .u64, .fn 17 [.v 6, .v 7, .v 8, .v 9, .v 10, .v 11] 2),
    (19, .i .u64, .fn 17 [.v 6, .v 7, .v 8, .v 9, .v 10, .v 11] 1),
    (18, .i .u64, .fn 17 [.v 6, .v 7, .v 8, .v 9, .v 10, .v 11] 0),
    (17, .i .u64, .fn 17 [.v 0, .v 1, .v 2, .v 3, .v 4, .v 5] 5),
    (16, .i .u64, .fn 17 [.v 0, .v 1, .v 2, .v 3, .v 4, .v 5] 4),
    (15, .i .u64, .fn 17 [.v 0, .v 1, .v 2, .v 3, .v 4, .v 5] 3),
    (14, .i .u64, .fn 17 [.v 0, .v 1, .v 2, .v 3, .v 4, .v 5] 2),
    (13, .i .u64, .fn 17 [.v 0, .v 1, .v 2, .v 3, .v 4, .v 5] 1),
    (12, .i .u64, .fn 17 [.v 0, .v 1, .v 2, .v 3, .v 4, .v 5] 0)],
    [(.v 26, true), (.v 25, false), (.v 24, false)], [.c 1]⟩)
  (.node (.v 27)
  (.leaf ⟨[(27, .bool, .cmp .lss (.v 16) (.v 22)),
    (26, .bool, .cmp .gtr (.v 16) (.v 22)),
    (25, .bool, .cmp .lss (.v 17) (.v 23)),
    (24, .bool, .cmp .gtr (.v 17) (.v 23)),
    (23, .i .u64, .fn 17 [.v 6, .v 7, .v 8, .v 9, .v 10, .v 11] 5),
    (22, .i .u64, .fn 17 [.v 6, .v 7, .v 8, .v 9, .v 10, .v 11] 4),
    (21, .i .u64, .fn 17 [.v 6, .v 7, .v 8, .v 9, .v 10, .v 11] 3),
    (20, .i .u64, .fn 17 [.v 6, .v 7, .v 8, .v 9, .v 10, .v 11] 2),
    (19, .i .u64, .fn 17 [.v 6, .v 7, .v 8, .v 9, .v 10, .v 11] 1),
    (18, .i .u64, .fn 17 [.v 6, .v 7, .v 8, .v 9, .v 10, .v 11] 0),
    (17, .i .u64, .fn 17 [.v 0, .v 1, .v 2, .v 3, .v 4, .v 5] 5),
    (16, .i .u64, .fn 17 [.v 0, .v 1, .v 2, .v 3, .v 4, .v 5] 4),
    (15, .i .u64, .fn 17 [.v 0, .v 1, .v 2, .v 3, .v 4, .v 5] 3),
    (14, .i .u64, .fn 17 [.v 0, .v 1, .v 2, .v 3, .v 4, .v 5] 2),
    (13, .i .u64, .fn 17 [.v 0, .v 1, .v 2, .v 3, .v 4, .v 5] 1),
    (12, .i .u64, .fn 17 [.v 0, .v 1, .v 2, .v 3, .v 4, .v 5] 0)],
    [(.v 27, true), (.v 26, false), (.v 25, false), (.v 24, false)], [.c (-1)]⟩)
  (.node (.v 28)
  (.leaf ⟨[(28, .bool, .cmp .gtr (.v 15) (.v 21)),
    (27, .bool, .cmp .lss (.v 16) (.v 22)),
    (26, .bool, .cmp .gtr (.v 16) (.v 22)),
    (25, .bool, .cmp .lss (.v 17) (.v 23)),
    (24, .bool, .cmp .gtr (.v 17) (.v 23)),
    (23, .i .u64, .fn 17 [.v 6, .v 7, .v 8, .v 9, .v 10, .v 11] 5),
    (22, .i .u64, .fn 17 [.v 6, .v 7, .v 8, .v 9, .v 10, .v 11] 4),
    (21, .i .u64, .fn 17 [.v 6, .v 7, .v 8, .v 9, .v 10, .v 11] 3),
    (20, .i .u64, .fn 17 [.v 6, .v 7, .v 8, .v 9, .v 10, .v 11] 2),
    (19, .i .u64, .fn 17 [.v 6, .v 7, .v 8, .v 9, .v 10, .v 11] 1),
    (18, .i .u64, .fn 17 [.v 6, .v 7, .v 8, .v 9, .v 10, .v 11] 0),
    (17, .i .u64, .fn 17 [.v 0, .v 1, .v 2, .v 3, .v 4, .v 5] 5),
    (16, .i .u64, .fn 17 [.v 0, .v 1, .v 2, .v 3, .v 4, .v 5] 4),
    (15, .i .u64, .fn 17 [.v 0, .v 1, .v 2, .v 3, .v 4, .v 5] 3),
    (14, .i .u64, .fn 17 [.v 0, .v 1, .v 2, .v 3, .v 4, .v 5] 2),
    (13, .i .u64, .fn 17 [.v 0, .v 1, .v 2, .v 3, .v 4, .v 5] 1),
    (12, .i .u64, .fn 17 [.v 0, .v 1, .v 2, .v 3, .v 4, .v 5] 0)],
    [(.v 28, true), (.v 27, false), (.v 26, false), (.v 25, false), (.v 24, false)], [.c 1]⟩)
  (.node (.v 29)
  (.leaf ⟨[(29, .bool, .cmp .lss (.v 15) (.v 21)),
    (28, .bool, .cmp .gtr (.v 15) (.v 21)),
    (27, .bool, .cmp .lss (.v 16) (.v 22)),
    (26, .bool, .cmp .gtr (.v 16) (.v 22)),
    (25, .bool, .cmp .lss (.v 17) (.v 23)),
    (24, .bool, .cmp .gtr (.v 17) (.v 23)),
    (23, .i .u64, .fn 17 [.v 6, .v 7, .v 8, .v 9, .v 10, .v 11] 5),
    (22, .i .u64, .fn 17 [.v 6, .v 7, .v 8, .v 9, .v 10, .v 11] 4),
    (21, .i .u64, .fn 17 [.v 6, .v 7, .v 8, .v 9, .v 10, .v 11] 3),
    (20, .i .u64, .fn 17 [.v 6, .v 7, .v 8, .v 9, .v 10, .v 11] 2),
    (19, .i .u64, .fn 17 [.v 6, .v 7, .v 8, .v 9, .v 10, .v 11] 1),
    (18, .i .u64, .fn 17 [.v 6, .v 7, .v 8, .v 9, .v 10, .v 11] 0),
    (17, .i .u64, .fn 17 [.v 0, .v 1, .v 2, .v 3, .v 4, .v 5] 5),
    (16, .i .u64, .fn 17 [.v 0, .v 1, .v 2, .v 3, .v 4, .v 5] 4),
    (15, .i .u64, .fn 17 [.v 0, .v 1, .v 2, .v 3, .v 4, .v 5] 3),
    (14, .i .u64, .fn 17 [.v 0, .v 1, .v 2, .v 3, .v 4, .v 5] 2),
    (13, .i .u64, .fn 17 [.v 0, .v 1, .v 2, .v 3, .v 4, .v 5] 1),
    (12, .i .u64, .fn 17 [.v 0, .v 1, .v 2, .v 3, .v 4, .v 5] 0)],
    [(.v 29, true), (.v 28, false), (.v 27, false), (.v 26, false), (.v 25, false), (.v 24, false)], [.c (-1)]⟩)
  (.node (.v 30)
  (.leaf ⟨[(30, .bool, .cmp .gtr (.v 14) (.v 20)),
    (29, .bool, .cmp .lss (.v 15) (.v 21)),
    (28, .bool, .cmp .gtr (.v 15) (.v 21)),
    (27, .bool, .cmp .lss (.v 16) (.v 22)),
    (26, .bool, .cmp .gtr (.v 16) (.v 22)),
    (25, .bool, .cmp .lss (.v 17) (.v 23)),
    (24, .bool, .cmp .gtr (.v 17) (.v 23)),
    (23, .i .u64, .fn 17 [.v 6, .v 7, .v 8, .v 9, .v 10, .v 11] 5),
    (22, .i .u64, .fn 17 [.v 6, .v 7, .v 8, .v 9, .v 10, .v 11] 4),
    (21, .i .u64, .fn 17 [.v 6, .v 7, .v 8, .v 9, .v 10, .v 11] 3),
    (20, .i .u64, .fn 17 [.v 6, .v 7, .v 8, .v 9, .v 10, .v 11] 2),
    (19, .i .u64, .fn 17 [.v 6, .v 7, .v 8, .v 9, .v 10, .v 11] 1),
    (18, .i .u64, .fn 17 [.v 6, .v 7, .v 8, .v 9, .v 10, .v 11] 0),
    (17, .i .u64, .fn 17 [.v 0, .v 1, .v 2, .v 3, .v 4, .v 5] 5),
    (16, .i .u64, .fn 17 [.v 0, .v 1, .v 2, .v 3, .v 4, .v 5] 4),
    (15, .i .u64, .fn 17 [.v 0, .v 1, .v 2, .v 3, .v 4, .v 5] 3),
    (14, .i .u64, .fn 17 [.v 0, .v 1, .v 2, .v 3, .v 4, .v 5] 2),
    (13, .i .u64, .fn 17 [.v 0, .v 1, .v 2, .v 3, .v 4, .v 5] 1),
    (12, .i .u64, .fn 17 [.v 0, .v 1, .v 2, .v 3, .v 4, .v 5] 0)],
    [(.v 30, true), (.v 29, false), (.v 28, false), (.v 27, false), (.v 26, false), (.v 25, false), (.v 24, false)], [.c 1]⟩)
  (.node (.v 31)
  (.leaf ⟨[(31, .bool, .cmp .lss (.v 14) (.v 20)),
    (30, .bool, .cmp .gtr (.v 14) (.v 20)),
    (29, .bool, .cmp .lss (.v 15) (.v 21)),
    (28, .bool, .cmp .gtr (.v 15) (.v 21)),
    (27, .bool, .cmp .lss (.v 16) (.v 22)),
    (26, .bool, .cmp .gtr (.v 16) (.v 22)),
    (25, .bool, .cmp .lss (.v 17) (.v 23)),
    (24, .bool, .cmp .gtr (.v 17) (.v 23)),
    (23, .i .u64, .fn 17 [.v 6, .v 7, .v 8, .v 9, .v 10, .v 11] 5),
    (22, .i .u64, .fn 17 [.v 6, .v 7, .v 8, .v 9, .v 10, .v 11] 4),
    (21, .i .u64, .fn 17 [.v 6, .v 7, .v 8, .v 9, .v 10, .v 11] 3),
    (20, .i .u64, .fn 17 [.v 6, .v 7, .v 8, .v 9, .v 10, .v 11] 2),
    (19, .i .u64, .fn 17 [.v 6, .v 7, .v 8, .v 9, .v 10, .v 11] 1),
    (18, .i .u64, .fn 17 [.v 6, .v 7, .v 8, .v 9, .v 10, .v 11] 0),
    (17, .i .u64, .fn 17 [.v 0, .v 1, .v 2, .v 3, .v 4, .v 5] 5),
    (16, .i .u64, .fn 17 [.v 0, .v 1, .v 2, .v 3, .v 4, .v 5] 4),
    (15, .i .u64, .fn 17 [.v 0, .v 1, .v 2, .v 3, .v 4, .v 5] 3),
    (14, .i .u64, .fn 17 [.v 0, .v 1, .v 2, .v 3, .v 4, .v 5] 2),
    (13, .i .u64, .fn 17 [.v 0, .v 1, .v 2, .v 3, .v 4, .v 5] 1),
    (12, .i .u64, .fn 17 [.v 0, .v 1, .v 2, .v 3, .v 4, .v 5] 0)],
    [(.v 31, true), (.v 30, false), (.v 29, false), (.v 28, false), (.v 27, false), (.v 26, false), (.v 25, false), (.v 24, false)], [.c (-1)]⟩)
  (.node (.v 32)
  (.leaf ⟨[(32, .bool, .cmp .gtr (.v 13) (.v 19)),
    (31, .bool, .cmp .lss (.v 14) (.v 20)),
    (30, .bool, .cmp .gtr (.v 14) (.v 20)),
    (29, .bool, .cmp .lss (.v 15) (.v 21)),
    (28, .bool, .cmp .gtr (.v 15) (.v 21)),
    (27, .bool, .cmp .lss (.v 16) (.v 22)),
    (26, .bool, .cmp .gtr (.v 16) (.v 22)),
    (25, .bool, .cmp .lss (.v 17) (.v 23)),
    (24, .bool, .cmp .gtr (.v 17) (.v 23)),
    (23, .i .u64, .fn 17 [.v 6, .v 7, .v 8, .v 9, .v 10, .v 11] 5),
    (22, .i .u64, .fn 17 [.v 6, .v 7, .v 8, .v 9, .v 10, .v 11] 4),
    (21, .i .u64, .fn 17 [.v 6, .v 7, .v 8, .v 9, .v 10, .v 11] 3),
    (20, .i .u64, .fn 17 [.v 6, .v 7, .v 8, .v 9, .v 10, .v 11] 2),
    (19, .i .u64, .fn 17 [.v 6, .v 7, .v 8, .v 9, .v 10, .v 11] 1),
    (18, .i .u64, .fn 17 [.v 6, .v 7, .v 8, .v 9, .v 10, .v 11] 0),
    (17, .i .u64, .fn 17 [.v 0, .v 1, .v 2, .v 3, .v 4, .v 5] 5),
    (16, .i .u64, .fn 17 [.v 0, .v 1, .v 2, .v 3, .v 4, .v 5] 4),
    (15, .i .u64, .fn 17 [.v 0, .v 1, .v 2, .v 3, .v 4, .v 5] 3),
    (14, .i .u64, .fn 17 [.v 0, .v 1, .v 2, .v 3, .v 4, .v 5] 2),
    (13, .i .u64, .fn 17 [.v 0, .v 1, .v 2, .v 3, .v 4, .v 5] 1),
    (12, .i .u64, .fn 17 [.v 0, .v 1, .v 2, .v 3, .v 4, .v 5] 0)],
    [(.v 32, true), (.v 31, false), (.v 30, false), (.v 29, false), (.v 28, false), (.v 27, false), (.v 26, false), (.v 25, false), (.v 24, false)], [.c 1]⟩)
  (.node (.v 33)
  (.leaf ⟨[(33, .bool, .cmp .lss (.v 13) (.v 19)),
    (32, .bool, .cmp .gtr (.v 13) (.v 19)),
    (31, .bool, .cmp .lss (.v 14) (.v 20)),
    (30, .bool, .cmp .gtr (.v 14) (.v 20)),
    (29, .bool, .cmp .lss (.v 15) (.v 21)),
    (28, .bool, .cmp .gtr (.v 15) (.v 21)),
    (27, .bool, .cmp .lss (.v 16) (.v 22)),
    (26, .bool, .cmp .gtr (.v 16) (.v 22)),
    (25, .bool, .cmp .lss (.v 17) (.v 23)),
    (24, .bool, .cmp .gtr (.v 17) (.v 23)),
    (23, .i .u64, .fn 17 [.v 6, .v 7, .v 8, .v 9, .v 10, .v 11] 5),
    (22, .i .u64, .fn 17 [.v 6, .v 7, .v 8, .v 9, .v 10, .v 11] 4),
    (21, .i .u64, .fn 17 [.v 6, .v 7, .v 8, .v 9, .v 10, .v 11] 3),
    (20, .i .u64, .fn 17 [.v 6, .v 7, .v 8, .v 9, .v 10, .v 11] 2),
    (19, .i .u64, .fn 17 [.v 6, .v 7, .v 8, .v 9, .v 10, .v 11] 1),
    (18, .i .u64, .fn 17 [.v 6, .v 7, .v 8, .v 9, .v 10, .v 11] 0),
    (17, .i .u64, .fn 17 [.v 0, .v 1, .v 2, .v 3, .v 4, .v 5] 5),
    (16, .i .u64, .fn 17 [.v 0, .v 1, .v 2, .v 3, .v 4, .v 5] 4),
    (15, .i .u64, .fn 17 [.v 0, .v 1, .v 2, .v 3, .v 4, .v 5] 3),
    (14, .i .u64, .fn 17 [.v 0, .v 1, .v 2, .v 3, .v 4, .v 5] 2),
    (13, .i .u64, .fn 17 [.v 0, .v 1, .v 2, .v 3, .v 4, .v 5] 1),
    (12, .i .u64, .fn 17 [.v 0, .v 1, .v 2, .v 3, .v 4, .v 5] 0)],
    [(.v 33, true), (.v 32, false), (.v 31, false), (.v 30, false), (.v 29, false), (.v 28, false), (.v 27, false), (.v 26, false), (.v 25, false), (.v 24, false)], [.c (-1)]⟩)
  (.node (.v 34)
  (.leaf ⟨[(34, .bool, .cmp .gtr (.v 12) (.v 18)),
    (33, .bool, .cmp .lss (.v 13) (.v 19)),
    (32, .bool, .cmp .gtr (.v 13) (.v 19)),
    (31, .bool, .cmp .lss (.v 14) (.v 20)),
    (30, .bool, .cmp .gtr (.v 14) (.v 20)),
    (29, .bool, .cmp .lss (.v 15) (.v 21)),
    (28, .bool, .cmp .gtr (.v 15) (.v 21)),
    (27, .bool, .cmp .lss (.v 16) (.v 22)),
    (26, .bool, .cmp .gtr (.v 16) (.v 22)),
    (25, .bool, .cmp .lss (.v 17) (.v 23)),
    (24, .bool, .cmp .gtr (.v 17) (.v 23)),
    (23, .i .u64, .fn 17 [.v 6, .v 7, .v 8, .v 9, .v 10, .v 11] 5),
    (22, .i .u64, .fn 17 [.v 6, .v 7, .v 8, .v 9, .v 10, .v 11] 4),
    (21, .i .u64, .fn 17 [.v 6, .v 7, .v 8, .v 9, .v 10, .v 11] 3),
    (20, .i .u64, .fn 17 [.v 6, .v 7, .v 8, .v 9, .v 10, .v 11] 2),
    (19, .i .u64, .fn 17 [.v 6, .v 7, .v 8, .v 9, .v 10, .v 11] 1),
    (18, .i .u64, .fn 17 [.v 6, .v 7, .v 8, .v 9, .v 10, .v 11] 0),
    (17, .i .u64, .fn 17 [.v 0, .v 1, .v 2, .v 3, .v 4, .v 5] 5),
    (16, .i .u64, .fn 17 [.v 0, .v 1, .v 2, .v 3, .v 4, .v 5] 4),
    (15, .i .u64, .fn 17 [.v 0, .v 1, .v 2, .v 3, .v 4, .v 5] 3),
    (14, .i .u64, .fn 17 [.v 0, .v 1, .v 2, .v 3, .v 4, .v 5] 2),
    (13, .i .u64, .fn 17 [.v 0, .v 1, .v 2, .v 3, .v 4, .v 5] 1),
    (12, .i .u64, .fn 17 [.v 0, .v 1, .v 2, .v 3, .v 4, .v 5] 0)],
    [(.v 34, true), (.v 33, false), (.v 32, false), (.v 31, false), (.v 30, false), (.v 29, false), (.v 28, false), (.v 27, false), (.v 26, false), (.v 25, false), (.v 24, false)], [.c 1]⟩)
  (.node (.v 35)
  (.leaf ⟨[(35, .bool, .cmp .lss (.v 12) (.v 18)),
    (34, .bool, .cmp .gtr (.v 12) (.v 18)),
    (33, .bool, .cmp .lss (.v 13) (.v 19)),
    (32, .bool, .cmp .gtr (.v 13) (.v 19)),
    (31, .bool, .cmp .lss (.v 14) (.v 20)),
    (30, .bool, .cmp .gtr (.v 14) (.v 20)),
    (29, .bool, .cmp .lss (.v 15) (.v 21)),
    (28, .bool, .cmp .gtr (.v 15) (.v 21)),
    (27, .bool, .cmp .lss (.v 16) (.v 22)),
    (26, .bool, .cmp .gtr (.v 16) (.v 22)),
    (25, .bool, .cmp .lss (.v 17) (.v 23)),
    (24, .bool, .cmp .gtr (.v 17) (.v 23)),
    (23, .i .u64, .fn 17 [.v 6, .v 7, .v 8, .v 9, .v 10, .v 11] 5),
    (22, .i .u64, .fn 17 [.v 6, .v 7, .v 8, .v 9, .v 10, .v 11] 4),
    (21, .i .u64, .fn 17 [.v 6, .v 7, .v 8, .v 9, .v 10, .v 11] 3),
    (20, .i .u64, .fn 17 [.v 6, .v 7, .v 8, .v 9, .v 10, .v 11] 2),
    (19, .i .u64, .fn 17 [.v 6, .v 7, .v 8, .v 9, .v 10, .v 11] 1),
    (18, .i .u64, .fn 17 [.v 6, .v 7, .v 8, .v 9, .v 10, .v 11] 0),
    (17, .i .u64, .fn 17 [.v 0, .v 1, .v 2, .v 3, .v 4, .v 5] 5),
    (16, .i .u64, .fn 17 [.v 0, .v 1, .v 2, .v 3, .v 4, .v 5] 4),
    (15, .i .u64, .fn 17 [.v 0, .v 1, .v 2, .v 3, .v 4, .v 5] 3),
    (14, .i .u64, .fn 17 [.v 0, .v 1, .v 2, .v 3, .v 4, .v 5] 2),
    (13, .i .u64, .fn 17 [.v 0, .v 1, .v 2, .v 3, .v 4, .v 5] 1),
    (12, .i .u64, .fn 17 [.v 0, .v 1, .v 2, .v 3, .v 4, .v 5] 0)],
    [(.v 35, true), (.v 34, false), (.v 33, false), (.v 32, false), (.v 31, false), (.v 30, false), (.v 29, false), (.v 28, false), (.v 27, false), (.v 26, false), (.v 25, false), (.v 24, false)], [.c (-1)]⟩)
  (.leaf ⟨[(35, .bool, .cmp .lss (.v 12) (.v 18)),
    (34, .bool, .cmp .gtr (.v 12) (.v 18)),
    (33, .bool, .cmp .lss (.v 13) (.v 19)),
    (32, .bool, .cmp .gtr (.v 13) (.v 19)),
    (31, .bool, .cmp .lss (.v 14) (.v 20)),
    (30, .bool, .cmp .gtr (.v 14) (.v 20)),
    (29, .bool, .cmp .lss (.v 15) (.v 21)),
    (28, .bool, .cmp .gtr (.v 15) (.v 21)),
    (27, .bool, .cmp .lss (.v 16) (.v 22)),
    (26, .bool, .cmp .gtr (.v 16) (.v 22)),
    (25, .bool, .cmp .lss (.v 17) (.v 23)),
    (24, .bool, .cmp .gtr (.v 17) (.v 23)),
    (23, .i .u64, .fn 17 [.v 6, .v 7, .v 8, .v 9, .v 10, .v 11] 5),
    (22, .i .u64, .fn 17 [.v 6, .v 7, .v 8, .v 9, .v 10, .v 11] 4),
    (21, .i .u64, .fn 17 [.v 6, .v 7, .v 8, .v 9, .v 10, .v 11] 3),
    (20, .i .u64, .fn 17 [.v 6, .v 7, .v 8, .v 9, .v 10, .v 11] 2),
    (19, .i .u64, .fn 17 [.v 6, .v 7, .v 8, .v 9, .v 10, .v 11] 1),
    (18, .i .u64, .fn 17 [.v 6, .v 7, .v 8, .v 9, .v 10, .v 11] 0),
    (17, .i .u64, .fn 17 [.v 0, .v 1, .v 2, .v 3, .v 4, .v 5] 5),
    (16, .i .u64, .fn 17 [.v 0, .v 1, .v 2, .v 3, .v 4, .v 5] 4),
    (15, .i .u64, .fn 17 [.v 0, .v 1, .v 2, .v 3, .v 4, .v 5] 3),
    (14, .i .u64, .fn 17 [.v 0, .v 1, .v 2, .v 3, .v 4, .v 5] 2),
    (13, .i .u64, .fn 17 [.v 0, .v 1, .v 2, .v 3, .v 4, .v 5] 1),
    (12, .i .u64, .fn 17 [.v 0, .v 1, .v 2, .v 3, .v 4, .v 5] 0)],
    [(.v 35, false), (.v 34, false), (.v 33, false), (.v 32, false), (.v 31, false), (.v 30, false), (.v 29, false), (.v 28, false), (.v 27, false), (.v 26, false), (.v 25, false), (.v 24, false)], [.c 0]⟩))))))))))))
theorem chk_cmp : checkFn Try.prog [(17, su_Bits)] su_cmp 400 Try.f24 (fun _ => t_cmp0) = true := by kernel_rfl
theorem ok_cmp : SummOK Try.prog 24 su_cmp (Phi 24) := by
  refine summ_fn (Φ := Phi) 400 (fun _ => t_cmp0) Try.func24 (tbl_cons ok_Bits tbl_nil) chk_cmp ?_
  intro al hal l hl ρ hk hs ha
  have hn : su_cmp.inKinds.length = 12 := rfl
  have hr : row ρ 12 = [ρ 0, ρ 1, ρ 2, ρ 3, ρ 4, ρ 5, ρ 6, ρ 7, ρ 8, ρ 9, ρ 10, ρ 11] := rfl
  rw [hn, hr] at hk ⊢
  simp only [su_cmp, Summ.inKinds, List.flatMap_cons, List.flatMap_nil, List.replicate, List.cons_append, List.nil_append, List.append_nil, holdsAll, K.holds] at hk
  obtain ⟨b0, b1, b2, b3, b4, b5, b6, b7, b8, b9, b10, b11, _⟩ := hk
  simp only [t_cmp0, CT.leaves, List.cons_append, List.nil_append, List.mem_cons, List.not_mem_nil, or_false] at hl
  rcases hl with rfl | rfl | rfl | rfl | rfl | rfl | rfl | rfl | rfl | rfl | rfl | rfl | rfl
  · simp only [satTr_cons, satTr_nil, sv_lss, sv_leq, sv_gtr, sv_geq, sv_eql, sv_neq, sv_not, sv_beq, sv_pick, sv_add, sv_sub, sv_mul, sv_shr32, sv_shr1, sv_shl63, sv_fn, sv_eqs, E.den, List.map, K.holds] at hs
    simp only [asrOK_cons, asrOK_nil, if_true, if_false, Bool.false_eq_true, E.den] at ha
    obtain ⟨⟨h24, k24⟩, ⟨h23, k23⟩, ⟨h22, k22⟩, ⟨h21, k21⟩, ⟨h20, k20⟩, ⟨h19, k19⟩, ⟨h18, k18⟩, ⟨h17, k17⟩, ⟨h16, k16⟩, ⟨h15, k15⟩, ⟨h14, k14⟩, ⟨h13, k13⟩, ⟨h12, k12⟩, _⟩ := hs
    obtain ⟨a0, _⟩ := ha
    have g12 : [ρ 12, ρ 13, ρ 14, ρ 15, ρ 16, ρ 17] = wds 6 (redM q ri (val [ρ 0, ρ 1, ρ 2, ρ 3, ρ 4, ρ 5])) := get6 rfl h12 h13 h14 h15 h16 h17
    have g18 : [ρ 18, ρ 19, ρ 20, ρ 21, ρ 22, ρ 23] = wds 6 (redM q ri (val [ρ 6, ρ 7, ρ 8, ρ 9, ρ 10, ρ 11])) := get6 rfl h18 h19 h20 h21 h22 h23
    have hx : val [ρ 12, ρ 13, ρ 14, ρ 15, ρ 16, ρ 17] = redM q ri (val [ρ 0, ρ 1, ρ 2, ρ 3, ρ 4, ρ 5]) := by rw [g12]; exact val_wds_of (red_lt q_pos).1 (Int.lt_trans (red_lt q_pos).2 q_lt)
    have hy : val [ρ 18, ρ 19, ρ 20, ρ 21, ρ 22, ρ 23] = redM q ri (val [ρ 6, ρ 7, ρ 8, ρ 9, ρ 10, ρ 11]) := by rw [g18]; exact val_wds_of (red_lt q_pos).1 (Int.lt_trans (red_lt q_pos).2 q_lt)
    have c24 := (yes_of h24 a0)
    change [ordI (redM q ri (val [ρ 0, ρ 1, ρ 2, ρ 3, ρ 4, ρ 5])) (redM q ri (val [ρ 6, ρ 7, ρ 8, ρ 9, ρ 10, ρ 11]))] = [1]
    rw [← hx, ← hy]
    clear h12 h13 h14 h15 h16 h17 h18 h19 h20 h21 h22 h23 h24 a0 hx hy g12 g18
    have key : ordI (val [ρ 12, ρ 13, ρ 14, ρ 15, ρ 16, ρ 17]) (val [ρ 18, ρ 19, ρ 20, ρ 21, ρ 22, ρ 23]) = 1 := by
      simp only [val]
      rw [ordI, if_pos (by omega)]
    rw [key]
  · simp only [satTr_cons, satTr_nil, sv_lss, sv_leq, sv_gtr, sv_geq, sv_eql, sv_neq, sv_not, sv_beq, sv_pick, sv_add, sv_sub, sv_mul, sv_shr32, sv_shr1, sv_shl63, sv_fn, sv_eqs, E.den, List.map, K.holds] at hs
    simp only [asrOK_cons, asrOK_nil, if_true, if_false, Bool.false_eq_true, E.den] at ha
    obtain ⟨⟨h25, k25⟩, ⟨h24, k24⟩, ⟨h23, k23⟩, ⟨h22, k22⟩, ⟨h21, k21⟩, ⟨h20, k20⟩, ⟨h19, k19⟩, ⟨h18, k18⟩, ⟨h17, k17⟩, ⟨h16, k16⟩, ⟨h15, k15⟩, ⟨h14, k14⟩, ⟨h13, k13⟩, ⟨h12, k12⟩, _⟩ := hs
    obtain ⟨a0, a1, _⟩ := ha
    have g12 : [ρ 12, ρ 13, ρ 14, ρ 15, ρ 16, ρ 17] = wds 6 (redM q ri (val [ρ 0, ρ 1, ρ 2, ρ 3, ρ 4, ρ 5])) := get6 rfl h12 h13 h14 h15 h16 h17
    have g18 : [ρ 18, ρ 19, ρ 20, ρ 21, ρ 22, ρ 23] = wds 6 (redM q ri (val [ρ 6, ρ 7, ρ 8, ρ 9, ρ 10, ρ 11])) := get6 rfl h18 h19 h20 h21 h22 h23
    have hx : val [ρ 12, ρ 13, ρ 14, ρ 15, ρ 16, ρ 17] = redM q ri (val [ρ 0, ρ 1, ρ 2, ρ 3, ρ 4, ρ 5]) := by rw [g12]; exact val_wds_of (red_lt q_pos).1 (Int.lt_trans (red_lt q_pos).2 q_lt)
    have hy : val [ρ 18, ρ 19, ρ 20, ρ 21, ρ 22, ρ 23] = redM q ri (val [ρ 6, ρ 7, ρ 8, ρ 9, ρ 10, ρ 11]) := by rw [g18]; exact val_wds_of (red_lt q_pos).1 (Int.lt_trans (red_lt q_pos).2 q_lt)
    have c24 := (no_of h24 a1)
    have c25 := (yes_of h25 a0)
    change [ordI (redM q ri (val [ρ 0, ρ 1, ρ 2, ρ 3, ρ 4, ρ 5])) (redM q ri (val [ρ 6, ρ 7, ρ 8, ρ 9, ρ 10, ρ 11]))] = [-1]
    rw [← hx, ← hy]
    clear h12 h13 h14 h15 h16 h17 h18 h19 h20 h21 h22 h23 h24 h25 a0 a1 hx hy g12 g18
    have key : ordI (val [ρ 12, ρ 13, ρ 14, ρ 15, ρ 16, ρ 17]) (val [ρ 18, ρ 19, ρ 20, ρ 21, ρ 22, ρ 23]) = -1 := by
      simp only [val]
      rw [ordI, if_neg (by omega), if_pos (by omega)]
    rw [key]
  · simp only [satTr_cons, satTr_nil, sv_lss, sv_leq, sv_gtr, sv_geq, sv_eql, sv_neq, sv_not, sv_beq, sv_pick, sv_add, sv_sub, sv_mul, sv_shr32, sv_shr1, sv_shl63, sv_fn, sv_eqs, E.den, List.map, K.holds] at hs
    simp only [asrOK_cons, asrOK_nil, if_true, if_false, Bool.false_eq_true, E.den] at ha
    obtain ⟨⟨h26, k26⟩, ⟨h25, k25⟩, ⟨h24, k24⟩, ⟨h23, k23⟩, ⟨h22, k22⟩, ⟨h21, k21⟩, ⟨h20, k20⟩, ⟨h19, k19⟩, ⟨h18, k18⟩, ⟨h17, k17⟩, ⟨h16, k16⟩, ⟨h15, k15⟩, ⟨h14, k14⟩, ⟨h13, k13⟩, ⟨h12, k12⟩, _⟩ := hs
    obtain ⟨a0, a1, a2, _⟩ := ha
    have g12 : [ρ 12, ρ 13, ρ 14, ρ 15, ρ 16, ρ 17] = wds 6 (redM q ri (val [ρ 0, ρ 1, ρ 2, ρ 3, ρ 4, ρ 5])) := get6 rfl h12 h13 h14 h15 h16 h17
    have g18 : [ρ 18, ρ 19, ρ 20, ρ 21, ρ 22, ρ 23] = wds 6 (redM q ri (val [ρ 6, ρ 7, ρ 8, ρ 9, ρ 10, ρ 11])) := get6 rfl h18 h19 h20 h21 h22 h23
    have hx : val [ρ 12, ρ 13, ρ 14, ρ 15, ρ 16, ρ 17] = redM q ri (val [ρ 0, ρ 1, ρ 2, ρ 3, ρ 4, ρ 5]) := by rw [g12]; exact val_wds_of (red_lt q_pos).1 (Int.lt_trans (red_lt q_pos).2 q_lt)
    have hy : val [ρ 18, ρ 19, ρ 20, ρ 21, ρ 22, ρ 23] = redM q ri (val [ρ 6, ρ 7, ρ 8, ρ 9, ρ 10, ρ 11]) := by rw [g18]; exact val_wds_of (red_lt q_pos).1 (Int.lt_trans (red_lt q_pos).2 q_lt)
    have c24 := (no_of h24 a2)
    have c25 := (no_of h25 a1)
    have c26 := (yes_of h26 a0)
    change [ordI (redM q ri (val [ρ 0, ρ 1, ρ 2, ρ 3, ρ 4, ρ 5])) (redM q ri (val [ρ 6, ρ 7, ρ 8, ρ 9, ρ 10, ρ 11]))] = [1]
    rw [← hx, ← hy]
    clear h12 h13 h14 h15 h16 h17 h18 h19 h20 h21 h22 h23 h24 h25 h26 a0 a1 a2 hx hy g12 g18
    have key : ordI (val [ρ 12, ρ 13, ρ 14, ρ 15, ρ 16, ρ 17]) (val [ρ 18, ρ 19, ρ 20, ρ 21, ρ 22, ρ 23]) = 1 := by
      simp only [val]
      rw [ordI, if_pos (by omega)]
    rw [key]
  · simp only [satTr_cons, satTr_nil, sv_lss, sv_leq, sv_gtr, sv_geq, sv_eql, sv_neq, sv_not, sv_beq, sv_pick, sv_add, sv_sub, sv_mul, sv_shr32, sv_shr1, sv_shl63, sv_fn, sv_eqs, E.den, List.map, K.holds] at hs
    simp only [asrOK_cons, asrOK_nil, if_true, if_false, Bool.false_eq_true, E.den] at ha
    obtain ⟨⟨h27, k27⟩, ⟨h26, k26⟩, ⟨h25, k25⟩, ⟨h24, k24⟩, ⟨h23, k23⟩, ⟨h22, k22⟩, ⟨h21, k21⟩, ⟨h20, k20⟩, ⟨h19, k19⟩, ⟨h18, k18⟩, ⟨h17, k17⟩, ⟨h16, k16⟩, ⟨h15, k15⟩, ⟨h14, k14⟩, ⟨h13, k13⟩, ⟨h12, k12⟩, _⟩ := hs
    obtain ⟨a0, a1, a2, a3, _⟩ := ha
    have g12 : [ρ 12, ρ 13, ρ 14, ρ 15, ρ 16, ρ 17] = wds 6 (redM q ri (val [ρ 0, ρ 1, ρ 2, ρ 3, ρ 4, ρ 5])) := get6 rfl h12 h13 h14 h15 h16 h17
    have g18 : [ρ 18, ρ 19, ρ 20, ρ 21, ρ 22, ρ 23] = wds 6 (redM q ri (val [ρ 6, ρ 7, ρ 8, ρ 9, ρ 10, ρ 11])) := get6 rfl h18 h19 h20 h21 h22 h23
    have hx : val [ρ 12, ρ 13, ρ 14, ρ 15, ρ 16, ρ 17] = redM q ri (val [ρ 0, ρ 1, ρ 2, ρ 3, ρ 4, ρ 5]) := by rw [g12]; exact val_wds_of (red_lt q_pos).1 (Int.lt_trans (red_lt q_pos).2 q_lt)
    have hy : val [ρ 18, ρ 19, ρ 20, ρ 21, ρ 22, ρ 23] = redM q ri (val [ρ 6, ρ 7, ρ 8, ρ 9, ρ 10, ρ 11]) := by rw [g18]; exact val_wds_of (red_lt q_pos).1 (Int.lt_trans (red_lt q_pos).2 q_lt)
    have c24 := (no_of h24 a3)
    have c25 := (no_of h25 a2)
    have c26 := (no_of h26 a1)
    have c27 := (yes_of h27 a0)
    change [ordI (redM q ri (val [ρ 0, ρ 1, ρ 2, ρ 3, ρ 4, ρ 5])) (redM q ri (val [ρ 6, ρ 7, ρ 8, ρ 9, ρ 10, ρ 11]))] = [-1]
    rw [← hx, ← hy]
    clear h12 h13 h14 h15 h16 h17 h18 h19 h20 h21 h22 h23 h24 h25 h26 h27 a0 a1 a2 a3 hx hy g12 g18
    have key : ordI (val [ρ 12, ρ 13, ρ 14, ρ 15, ρ 16, ρ 17]) (val [ρ 18, ρ 19, ρ 20, ρ 21, ρ 22, ρ 23]) = -1 := by
      simp only [val]
      rw [ordI, if_neg (by omega), if_pos (by omega)]
    rw [key]
  · simp only [satTr_cons, satTr_nil, sv_lss, sv_leq, sv_gtr, sv_geq, sv_eql, sv_neq, sv_not, sv_beq, sv_pick, sv_add, sv_sub, sv_mul, sv_shr32, sv_shr1, sv_shl63, sv_fn, sv_eqs, E.den, List.map, K.holds] at hs
    simp only [asrOK_cons, asrOK_nil, if_true, if_false, Bool.false_eq_true, E.den] at ha
    obtain ⟨⟨h28, k28⟩, ⟨h27, k27⟩, ⟨h26, k26⟩, ⟨h25, k25⟩, ⟨h24, k24⟩, ⟨h23, k23⟩, ⟨h22, k22⟩, ⟨h21, k21⟩, ⟨h20, k20⟩, ⟨h19, k19⟩, ⟨h18, k18⟩, ⟨h17, k17⟩, ⟨h16, k16⟩, ⟨h15, k15⟩, ⟨h14, k14⟩, ⟨h13, k13⟩, ⟨h12, k12⟩, _⟩ := hs
    obtain ⟨a0, a1, a2, a3, a4, _⟩ := ha
    have g12 : [ρ 12, ρ 13, ρ 14, ρ 15, ρ 16, ρ 17] = wds 6 (redM q ri (val [ρ 0, ρ 1, ρ 2, ρ 3, ρ 4, ρ 5])) := get6 rfl h12 h13 h14 h15 h16 h17
    have g18 : [ρ 18, ρ 19, ρ 20, ρ 21, ρ 22, ρ 23] = wds 6 (redM q ri (val [ρ 6, ρ 7, ρ 8, ρ 9, ρ 10, ρ 11])) := get6 rfl h18 h19 h20 h21 h22 h23
    have hx : val [ρ 12, ρ 13, ρ 14, ρ 15, ρ 16, ρ 17] = redM q ri (val [ρ 0, ρ 1, ρ 2, ρ 3, ρ 4, ρ 5]) := by rw [g12]; exact val_wds_of (red_lt q_pos).1 (Int.lt_trans (red_lt q_pos).2 q_lt)
    have hy : val [ρ 18, ρ 19, ρ 20, ρ 21, ρ 22, ρ 23] = redM q ri (val [ρ 6, ρ 7, ρ 8, ρ 9, ρ 10, ρ 11]) := by rw [g18]; exact val_wds_of (red_lt q_pos).1 (Int.lt_trans (red_lt q_pos).2 q_lt)
    have c24 := (no_of h24 a4)
    have c25 := (no_of h25 a3)
    have c26 := (no_of h26 a2)
    have c27 := (no_of h27 a1)
    have c28 := (yes_of h28 a0)
    change [ordI (redM q ri (val [ρ 0, ρ 1, ρ 2, ρ 3, ρ 4, ρ 5])) (redM q ri (val [ρ 6, ρ 7, ρ 8, ρ 9, ρ 10, ρ 11]))] = [1]
    rw [← hx, ← hy]
    clear h12 h13 h14 h15 h16 h17 h18 h19 h20 h21 h22 h23 h24 h25 h26 h27 h28 a0 a1 a2 a3 a4 hx hy g12 g18
    have key : ordI (val [ρ 12, ρ 13, ρ 14, ρ 15, ρ 16, ρ 17]) (val [ρ 18, ρ 19, ρ 20, ρ 21, ρ 22, ρ 23]) = 1 := by
      simp only [val]
      rw [ordI, if_pos (by omega)]
    rw [key]
  · simp only [satTr_cons, satTr_nil, sv_lss, sv_leq, sv_gtr, sv_geq, sv_eql, sv_neq, sv_not, sv_beq, sv_pick, sv_add, sv_sub, sv_mul, sv_shr32, sv_shr1, sv_shl63, sv_fn, sv_eqs, E.den, List.map, K.holds] at hs
    simp only [asrOK_cons, asrOK_nil, if_true, if_false, Bool.false_eq_true, E.den] at ha
    obtain ⟨⟨h29, k29⟩, ⟨h28, k28⟩, ⟨h27, k27⟩, ⟨h26, k26⟩, ⟨h25, k25⟩, ⟨h24, k24⟩, ⟨h23, k23⟩, ⟨h22, k22⟩, ⟨h21, k21⟩, ⟨h20, k20⟩, ⟨h19, k19⟩, ⟨h18, k18⟩, ⟨h17, k17⟩, ⟨h16, k16⟩, ⟨h15, k15⟩, ⟨h14, k14⟩, ⟨h13, k13⟩, ⟨h12, k12⟩, _⟩ := hs
    obtain ⟨a0, a1, a2, a3, a4, a5, _⟩ := ha
    have g12 : [ρ 12, ρ 13, ρ 14, ρ 15, ρ 16, ρ 17] = wds 6 (redM q ri (val [ρ 0, ρ 1, ρ 2, ρ 3, ρ 4, ρ 5])) := get6 rfl h12 h13 h14 h15 h16 h17
    have g18 : [ρ 18, ρ 19, ρ 20, ρ 21, ρ 22, ρ 23] = wds 6 (redM q ri (val [ρ 6, ρ 7, ρ 8, ρ 9, ρ 10, ρ 11])) := get6 rfl h18 h19 h20 h21 h22 h23
    have hx : val [ρ 12, ρ 13, ρ 14, ρ 15, ρ 16, ρ 17] = redM q ri (val [ρ 0, ρ 1, ρ 2, ρ 3, ρ 4, ρ 5]) := by rw [g12]; exact val_wds_of (red_lt q_pos).1 (Int.lt_trans (red_lt q_pos).2 q_lt)
    have hy : val [ρ 18, ρ 19, ρ 20, ρ 21, ρ 22, ρ 23] = redM q ri (val [ρ 6, ρ 7, ρ 8, ρ 9, ρ 10, ρ 11]) := by rw [g18]; exact val_wds_of (red_lt q_pos).1 (Int.lt_trans (red_lt q_pos).2 q_lt)
    have c24 := (no_of h24 a5)
    have c25 := (no_of h25 a4)
    have c26 := (no_of h26 a3)
    have c27 := (no_of h27 a2)
    have c28 := (no_of h28 a1)
    have c29 := (yes_of h29 a0)
    change [ordI (redM q ri (val [ρ 0, ρ 1, ρ 2, ρ 3, ρ 4, ρ 5])) (redM q ri (val [ρ 6, ρ 7, ρ 8, ρ 9, ρ 10, ρ 11]))] = [-1]
    rw [← hx, ← hy]
    clear h12 h13 h14 h15 h16 h17 h18 h19 h20 h21 h22 h23 h24 h25 h26 h27 h28 h29 a0 a1 a2 a3 a4 a5 hx hy g12 g18
    have key : ordI (val [ρ 12, ρ 13, ρ 14, ρ 15, ρ 16, ρ 17]) (val [ρ 18, ρ 19, ρ 20, ρ 21, ρ 22, ρ 23]) = -1 := by
      simp only [val]
      rw [ordI, if_neg (by omega), if_pos (by omega)]
    rw [key]
  · simp only [satTr_cons, satTr_nil, sv_lss, sv_leq, sv_gtr, sv_geq, sv_eql, sv_neq, sv_not, sv_beq, sv_pick, sv_add, sv_sub, sv_mul, sv_shr32, sv_shr1, sv_shl63, sv_fn, sv_eqs, E.den, List.map, K.holds] at hs
    simp only [asrOK_cons, asrOK_nil, if_true, if_false, Bool.false_eq_true, E.den] at ha
    obtain ⟨⟨h30, k30⟩, ⟨h29, k29⟩, ⟨h28, k28⟩, ⟨h27, k27⟩, ⟨h26, k26⟩, ⟨h25, k25⟩, ⟨h24, k24⟩, ⟨h23, k23⟩, ⟨h22, k22⟩, ⟨h21, k21⟩, ⟨h20, k20⟩, ⟨h19, k19⟩, ⟨h18, k18⟩, ⟨h17, k17⟩, ⟨h16, k16⟩, ⟨h15, k15⟩, ⟨h14, k14⟩, ⟨h13, k13⟩, ⟨h12, k12⟩, _⟩ := hs
    obtain ⟨a0, a1, a2, a3, a4, a5, a6, _⟩ := ha
    have g12 : [ρ 12, ρ 13, ρ 14, ρ 15, ρ 16, ρ 17] = wds 6 (redM q ri (val [ρ 0, ρ 1, ρ 2, ρ 3, ρ 4, ρ 5])) := get6 rfl h12 h13 h14 h15 h16 h17
    have g18 : [ρ 18, ρ 19, ρ 20, ρ 21, ρ 22, ρ 23] = wds 6 (redM q ri (val [ρ 6, ρ 7, ρ 8, ρ 9, ρ 10, ρ 11])) := get6 rfl h18 h19 h20 h21 h22 h23
    have hx : val [ρ 12, ρ 13, ρ 14, ρ 15, ρ 16, ρ 17] = redM q ri (val [ρ 0, ρ 1, ρ 2, ρ 3, ρ 4, ρ 5]) := by rw [g12]; exact val_wds_of (red_lt q_pos).1 (Int.lt_trans (red_lt q_pos).2 q_lt)
    have hy : val [ρ 18, ρ 19, ρ 20, ρ 21, ρ 22, ρ 23] = redM q ri (val [ρ 6, ρ 7, ρ 8, ρ 9, ρ 10, ρ 11]) := by rw [g18]; exact val_wds_of (red_lt q_pos).1 (Int.lt_trans (red_lt q_pos).2 q_lt)
    have c24 := (no_of h24 a6)
    have c25 := (no_of h25 a5)
    have c26 := (no_of h26 a4)
    have c27 := (no_of h27 a3)
    have c28 := (no_of h28 a2)
    have c29 := (no_of h29 a1)
    have c30 := (yes_of h30 a0)
    change [ordI (redM q ri (val [ρ 0, ρ 1, ρ 2, ρ 3, ρ 4, ρ 5])) (redM q ri (val [ρ 6, ρ 7, ρ 8, ρ 9, ρ 10, ρ 11]))] = [1]
    rw [← hx, ← hy]
    clear h12 h13 h14 h15 h16 h17 h18 h19 h20 h21 h22 h23 h24 h25 h26 h27 h28 h29 h30 a0 a1 a2 a3 a4 a5 a6 hx hy g12 g18
    have key : ordI (val [ρ 12, ρ 13, ρ 14, ρ 15, ρ 16, ρ 17]) (val [ρ 18, ρ 19, ρ 20, ρ 21, ρ 22, ρ 23]) = 1 := by
      simp only [val]
      rw [ordI, if_pos (by omega)]
    rw [key]
  · simp only [satTr_cons, satTr_nil, sv_lss, sv_leq, sv_gtr, sv_geq, sv_eql, sv_neq, sv_not, sv_beq, sv_pick, sv_add, sv_sub, sv_mul, sv_shr32, sv_shr1, sv_shl63, sv_fn, sv_eqs, E.den, List.map, K.holds] at hs
    simp only [asrOK_cons, asrOK_nil, if_true, if_false, Bool.false_eq_true, E.den] at ha
    obtain ⟨⟨h31, k31⟩, ⟨h30, k30⟩, ⟨h29, k29⟩, ⟨h28, k28⟩, ⟨h27, k27⟩, ⟨h26, k26⟩, ⟨h25, k25⟩, ⟨h24, k24⟩, ⟨h23, k23⟩, ⟨h22, k22⟩, ⟨h21, k21⟩, ⟨h20, k20⟩, ⟨h19, k19⟩, ⟨h18, k18⟩, ⟨h17, k17⟩, ⟨h16, k16⟩, ⟨h15, k15⟩, ⟨h14, k14⟩, ⟨h13, k13⟩, ⟨h12, k12⟩, _⟩ := hs
    obtain ⟨a0, a1, a2, a3, a4, a5, a6, a7, _⟩ := ha
    have g12 : [ρ 12, ρ 13, ρ 14, ρ 15, ρ 16, ρ 17] = wds 6 (redM q ri (val [ρ 0, ρ 1, ρ 2, ρ 3, ρ 4, ρ 5])) := get6 rfl h12 h13 h14 h15 h16 h17
    have g18 : [ρ 18, ρ 19, ρ 20, ρ 21, ρ 22, ρ 23] = wds 6 (redM q ri (val [ρ 6, ρ 7, ρ 8, ρ 9, ρ 10, ρ 11])) := get6 rfl h18 h19 h20 h21 h22 h23
    have hx : val [ρ 12, ρ 13, ρ 14, ρ 15, ρ 16, ρ 17] = redM q ri (val [ρ 0, ρ 1, ρ 2, ρ 3, ρ 4, ρ 5]) := by rw [g12]; exact val_wds_of (red_lt q_pos).1 (Int.lt_trans (red_lt q_pos).2 q_lt)
    have hy : val [ρ 18, ρ 19, ρ 20, ρ 21, ρ 22, ρ 23] = redM q ri (val [ρ 6, ρ 7, ρ 8, ρ 9, ρ 10, ρ 11]) := by rw [g18]; exact val_wds_of (red_lt q_pos).1 (Int.lt_trans (red_lt q_pos).2 q_lt)
    have c24 := (no_of h24 a7)
    have c25 := (no_of h25 a6)
    have c26 := (no_of h26 a5)
    have c27 := (no_of h27 a4)
    have c28 := (no_of h28 a3)
    have c29 := (no_of h29 a2)
    have c30 := (no_of h30 a1)
    have c31 := (yes_of h31 a0)
    change [ordI (redM q ri (val [ρ 0, ρ 1, ρ 2, ρ 3, ρ 4, ρ 5])) (redM q ri (val [ρ 6, ρ 7, ρ 8, ρ 9, ρ 10, ρ 11]))] = [-1]
    rw [← hx, ← hy]
    clear h12 h13 h14 h15 h16 h17 h18 h19 h20 h21 h22 h23 h24 h25 h26 h27 h28 h29 h30 h31 a0 a1 a2 a3 a4 a5 a6 a7 hx hy g12 g18
    have key : ordI (val [ρ 12, ρ 13, ρ 14, ρ 15, ρ 16, ρ 17]) (val [ρ 18, ρ 19, ρ 20, ρ 21, ρ 22, ρ 23]) = -1 := by
      simp only [val]
      rw [ordI, if_neg (by omega), if_pos (by omega)]
    rw [key]
  · simp only [satTr_cons, satTr_nil, sv_lss, sv_leq, sv_gtr, sv_geq, sv_eql, sv_neq, sv_not, sv_beq, sv_pick, sv_add, sv_sub, sv_mul, sv_shr32, sv_shr1, sv_shl63, sv_fn, sv_eqs, E.den, List.map, K.holds] at hs
    simp only [asrOK_cons, asrOK_nil, if_true, if_false, Bool.false_eq_true, E.den] at ha
    obtain ⟨⟨h32, k32⟩, ⟨h31, k31⟩, ⟨h30, k30⟩, ⟨h29, k29⟩, ⟨h28, k28⟩, ⟨h27, k27⟩, ⟨h26, k26⟩, ⟨h25, k25⟩, ⟨h24, k24⟩, ⟨h23, k23⟩, ⟨h22, k22⟩, ⟨h21, k21⟩, ⟨h20, k20⟩, ⟨h19, k19⟩, ⟨h18, k18⟩, ⟨h17, k17⟩, ⟨h16, k16⟩, ⟨h15, k15⟩, ⟨h14, k14⟩, ⟨h13, k13⟩, ⟨h12, k12⟩, _⟩ := hs
    obtain ⟨a0, a1, a2, a3, a4, a5, a6, a7, a8, _⟩ := ha
    have g12 : [ρ 12, ρ 13, ρ 14, ρ 15, ρ 16, ρ 17] = wds 6 (redM q ri (val [ρ 0, ρ 1, ρ 2, ρ 3, ρ 4, ρ 5])) := get6 rfl h12 h13 h14 h15 h16 h17
    have g18 : [ρ 18, ρ 19, ρ 20, ρ 21, ρ 22, ρ 23] = wds 6 (redM q ri (val [ρ 6, ρ 7, ρ 8, ρ 9, ρ 10, ρ 11])) := get6 rfl h18 h19 h20 h21 h22 h23
    have hx : val [ρ 12, ρ 13, ρ 14, ρ 15, ρ 16, ρ 17] = redM q ri (val [ρ 0, ρ 1, ρ 2, ρ 3, ρ 4, ρ 5]) := by rw [g12]; exact val_wds_of (red_lt q_pos).1 (Int.lt_trans (red_lt q_pos).2 q_lt)
    have hy : val [ρ 18, ρ 19, ρ 20, ρ 21, ρ 22, ρ 23] = redM q ri (val [ρ 6, ρ 7, ρ 8, ρ 9, ρ 10, ρ 11]) := by rw [g18]; exact val_wds_of (red_lt q_pos).1 (Int.lt_trans (red_lt q_pos).2 q_lt)
    have c24 := (no_of h24 a8)
    have c25 := (no_of h25 a7)
    have c26 := (no_of h26 a6)
    have c27 := (no_of h27 a5)
    have c28 := (no_of h28 a4)
    have c29 := (no_of h29 a3)
    have c30 := (no_of h30 a2)
    have c31 := (no_of h31 a1)
    have c32 := (yes_of h32 a0)
    change [ordI (redM q ri (val [ρ 0, ρ 1, ρ 2, ρ 3, ρ 4, ρ 5])) (redM q ri (val [ρ 6, ρ 7, ρ 8, ρ 9, ρ 10, ρ 11]))] = [1]
    rw [← hx, ← hy]
    clear h12 h13 h14 h15 h16 h17 h18 h19 h20 h21 h22 h23 h24 h25 h26 h27 h28 h29 h30 h31 h32 a0 a1 a2 a3 a4 a5 a6 a7 a8 hx hy g12 g18
    have key : ordI (val [ρ 12, ρ 13, ρ 14, ρ 15, ρ 16, ρ 17]) (val [ρ 18, ρ 19, ρ 20, ρ 21, ρ 22, ρ 23]) = 1 := by
      simp only [val]
      rw [ordI, if_pos (by omega)]
    rw [key]
  · simp only [satTr_cons, satTr_nil, sv_lss, sv_leq, sv_gtr, sv_geq, sv_eql, sv_neq, sv_not, sv_beq, sv_pick, sv_add, sv_sub, sv_mul, sv_shr32, sv_shr1, sv_shl63, sv_fn, sv_eqs, E.den, List.map, K.holds] at hs
    simp only [asrOK_cons, asrOK_nil, if_true, if_false, Bool.false_eq_true, E.den] at ha
    obtain ⟨⟨h33, k33⟩, ⟨h32, k32⟩, ⟨h31, k31⟩, ⟨h30, k30⟩, ⟨h29, k29⟩, ⟨h28, k28⟩, ⟨h27, k27⟩, ⟨h26, k26⟩, ⟨h25, k25⟩, ⟨h24, k24⟩, ⟨h23, k23⟩, ⟨h22, k22⟩, ⟨h21, k21⟩, ⟨h20, k20⟩, ⟨h19, k19⟩, ⟨h18, k18⟩, ⟨h17, k17⟩, ⟨h16, k16⟩, ⟨h15, k15⟩, ⟨h14, k14⟩, ⟨h13, k13⟩, ⟨h12, k12⟩, _⟩ := hs
    obtain ⟨a0, a1, a2, a3, a4, a5, a6, a7, a8, a9, _⟩ := ha
    have g12 : [ρ 12, ρ 13, ρ 14, ρ 15, ρ 16, ρ 17] = wds 6 (redM q ri (val [ρ 0, ρ 1, ρ 2, ρ 3, ρ 4, ρ 5])) := get6 rfl h12 h13 h14 h15 h16 h17
    have g18 : [ρ 18, ρ 19, ρ 20, ρ 21, ρ 22, ρ 23] = wds 6 (redM q ri (val [ρ 6, ρ 7, ρ 8, ρ 9, ρ 10, ρ 11])) := get6 rfl h18 h19 h20 h21 h22 h23
    have hx : val [ρ 12, ρ 13, ρ 14, ρ 15, ρ 16, ρ 17] = redM q ri (val [ρ 0, ρ 1, ρ 2, ρ 3, ρ 4, ρ 5]) := by rw [g12]; exact val_wds_of (red_lt q_pos).1 (Int.lt_trans (red_lt q_pos).2 q_lt)
    have hy : val [ρ 18, ρ 19, ρ 20, ρ 21, ρ 22, ρ 23] = redM q ri (val [ρ 6, ρ 7, ρ 8, ρ 9, ρ 10, ρ 11]) := by rw [g18]; exact val_wds_of (red_lt q_pos).1 (Int.lt_trans (red_lt q_pos).2 q_lt)
    have c24 := (no_of h24 a9)
    have c25 := (no_of h25 a8)
    have c26 := (no_of h26 a7)
    have c27 := (no_of h27 a6)
    have c28 := (no_of h28 a5)
    have c29 := (no_of h29 a4)
    have c30 := (no_of h30 a3)
    have c31 := (no_of h31 a2)
    have c32 := (no_of h32 a1)
    have c33 := (yes_of h33 a0)
    change [ordI (redM q ri (val [ρ 0, ρ 1, ρ 2, ρ 3, ρ 4, ρ 5])) (redM q ri (val [ρ 6, ρ 7, ρ 8, ρ 9, ρ 10, ρ 11]))] = [-1]
    rw [← hx, ← hy]
    clear h12 h13 h14 h15 h16 h17 h18 h19 h20 h21 h22 h23 h24 h25 h26 h27 h28 h29 h30 h31 h32 h33 a0 a1 a2 a3 a4 a5 a6 a7 a8 a9 hx hy g12 g18
    have key : ordI (val [ρ 12, ρ 13, ρ 14, ρ 15, ρ 16, ρ 17]) (val [ρ 18, ρ 19, ρ 20, ρ 21, ρ 22, ρ 23]) = -1 := by
      simp only [val]
      rw [ordI, if_neg (by omega), if_pos (by omega)]
    rw [key]
  · simp only [satTr_cons, satTr_nil, sv_lss, sv_leq, sv_gtr, sv_geq, sv_eql, sv_neq, sv_not, sv_beq, sv_pick, sv_add, sv_sub, sv_mul, sv_shr32, sv_shr1, sv_shl63, sv_fn, sv_eqs, E.den, List.map, K.holds] at hs
    simp only [asrOK_cons, asrOK_nil, if_true, if_false, Bool.false_eq_true, E.den] at ha
    obtain ⟨⟨h34, k34⟩, ⟨h33, k33⟩, ⟨h32, k32⟩, ⟨h31, k31⟩, ⟨h30, k30⟩, ⟨h29, k29⟩, ⟨h28, k28⟩, ⟨h27, k27⟩, ⟨h26, k26⟩, ⟨h25, k25⟩, ⟨h24, k24⟩, ⟨h23, k23⟩, ⟨h22, k22⟩, ⟨h21, k21⟩, ⟨h20, k20⟩, ⟨h19, k19⟩, ⟨h18, k18⟩, ⟨h17, k17⟩, ⟨h16, k16⟩, ⟨h15, k15⟩, ⟨h14, k14⟩, ⟨h13, k13⟩, ⟨h12, k12⟩, _⟩ := hs
    obtain ⟨a0, a1, a2, a3, a4, a5, a6, a7, a8, a9, a10, _⟩ := ha
    have g12 : [ρ 12, ρ 13, ρ 14, ρ 15, ρ 16, ρ 17] = wds 6 (redM q ri (val [ρ 0, ρ 1, ρ 2, ρ 3, ρ 4, ρ 5])) := get6 rfl h12 h13 h14 h15 h16 h17
    have g18 : [ρ 18, ρ 19, ρ 20, ρ 21, ρ 22, ρ 23] = wds 6 (redM q ri (val [ρ 6, ρ 7, ρ 8, ρ 9, ρ 10, ρ 11])) := get6 rfl h18 h19 h20 h21 h22 h23
    have hx : val [ρ 12, ρ 13, ρ 14, ρ 15, ρ 16, ρ 17] = redM q ri (val [ρ 0, ρ 1, ρ 2, ρ 3, ρ 4, ρ 5]) := by rw [g12]; exact val_wds_of (red_lt q_pos).1 (Int.lt_trans (red_lt q_pos).2 q_lt)
    have hy : val [ρ 18, ρ 19, ρ 20, ρ 21, ρ 22, ρ 23] = redM q ri (val [ρ 6, ρ 7, ρ 8, ρ 9, ρ 10, ρ 11]) := by rw [g18]; exact val_wds_of (red_lt q_pos).1 (Int.lt_trans (red_lt q_pos).2 q_lt)
    have c24 := (no_of h24 a10)
    have c25 := (no_of h25 a9)
    have c26 := (no_of h26 a8)
    have c27 := (no_of h27 a7)
    have c28 := (no_of h28 a6)
    have c29 := (no_of h29 a5)
    have c30 := (no_of h30 a4)
    have c31 := (no_of h31 a3)
    have c32 := (no_of h32 a2)
    have c33 := (no_of h33 a1)
    have c34 := (yes_of h34 a0)
    change [ordI (redM q ri (val [ρ 0, ρ 1, ρ 2, ρ 3, ρ 4, ρ 5])) (redM q ri (val [ρ 6, ρ 7, ρ 8, ρ 9, ρ 10, ρ 11]))] = [1]
    rw [← hx, ← hy]
    clear h12 h13 h14 h15 h16 h17 h18 h19 h20 h21 h22 h23 h24 h25 h26 h27 h28 h29 h30 h31 h32 h33 h34 a0 a1 a2 a3 a4 a5 a6 a7 a8 a9 a10 hx hy g12 g18
    have key : ordI (val [ρ 12, ρ 13, ρ 14, ρ 15, ρ 16, ρ 17]) (val [ρ 18, ρ 19, ρ 20, ρ 21, ρ 22, ρ 23]) = 1 := by
      simp only [val]
      rw [ordI, if_pos (by omega)]
    rw [key]
  · simp only [satTr_cons, satTr_nil, sv_lss, sv_leq, sv_gtr, sv_geq, sv_eql, sv_neq, sv_not, sv_beq, sv_pick, sv_add, sv_sub, sv_mul, sv_shr32, sv_shr1, sv_shl63, sv_fn, sv_eqs, E.den, List.map, K.holds] at hs
    simp only [asrOK_cons, asrOK_nil, if_true, if_false, Bool.false_eq_true, E.den] at ha
    obtain ⟨⟨h35, k35⟩, ⟨h34, k34⟩, ⟨h33, k33⟩, ⟨h32, k32⟩, ⟨h31, k31⟩, ⟨h30, k30⟩, ⟨h29, k29⟩, ⟨h28, k28⟩, ⟨h27, k27⟩, ⟨h26, k26⟩, ⟨h25, k25⟩, ⟨h24, k24⟩, ⟨h23, k23⟩, ⟨h22, k22⟩, ⟨h21, k21⟩, ⟨h20, k20⟩, ⟨h19, k19⟩, ⟨h18, k18⟩, ⟨h17, k17⟩, ⟨h16, k16⟩, ⟨h15, k15⟩, ⟨h14, k14⟩, ⟨h13, k13⟩, ⟨h12, k12⟩, _⟩ := hs
    obtain ⟨a0, a1, a2, a3, a4, a5, a6, a7, a8, a9, a10, a11, _⟩ := ha
    have g12 : [ρ 12, ρ 13, ρ 14, ρ 15, ρ 16, ρ 17] = wds 6 (redM q ri (val [ρ 0, ρ 1, ρ 2, ρ 3, ρ 4, ρ 5])) := get6 rfl h12 h13 h14 h15 h16 h17
    have g18 : [ρ 18, ρ 19, ρ 20, ρ 21, ρ 22, ρ 23] = wds 6 (redM q ri (val [ρ 6, ρ 7, ρ 8, ρ 9, ρ 10, ρ 11])) := get6 rfl h18 h19 h20 h21 h22 h23
    have hx : val [ρ 12, ρ 13, ρ 14, ρ 15, ρ 16, ρ 17] = redM q ri (val [ρ 0, ρ 1, ρ 2, ρ 3, ρ 4, ρ 5]) := by rw [g12]; exact val_wds_of (red_lt q_pos).1 (Int.lt_trans (red_lt q_pos).2 q_lt)
    have hy : val [ρ 18, ρ 19, ρ 20, ρ 21, ρ 22, ρ 23] = redM q ri (val [ρ 6, ρ 7, ρ 8, ρ 9, ρ 10, ρ 11]) := by rw [g18]; exact val_wds_of (red_lt q_pos).1 (Int.lt_trans (red_lt q_pos).2 q_lt)
    have c24 := (no_of h24 a11)
    have c25 := (no_of h25 a10)
    have c26 := (no_of h26 a9)
    have c27 := (no_of h27 a8)
    have c28 := (no_of h28 a7)
    have c29 := (no_of h29 a6)
    have c30 := (no_of h30 a5)
    have c31 := (no_of h31 a4)
    have c32 := (no_of h32 a3)
    have c33 := (no_of h33 a2)
    have c34 := (no_of h34 a1)
    have c35 := (yes_of h35 a0)
    change [ordI (redM q ri (val [ρ 0, ρ 1, ρ 2, ρ 3, ρ 4, ρ 5])) (redM q ri (val [ρ 6, ρ 7, ρ 8, ρ 9, ρ 10, ρ 11]))] = [-1]
    rw [← hx, ← hy]
    clear h12 h13 h14 h15 h16 h17 h18 h19 h20 h21 h22 h23 h24 h25 h26 h27 h28 h29 h30 h31 h32 h33 h34 h35 a0 a1 a2 a3 a4 a5 a6 a7 a8 a9 a10 a11 hx hy g12 g18
    have key : ordI (val [ρ 12, ρ 13, ρ 14, ρ 15, ρ 16, ρ 17]) (val [ρ 18, ρ 19, ρ 20, ρ 21, ρ 22, ρ 23]) = -1 := by
      simp only [val]
      rw [ordI, if_neg (by omega), if_pos (by omega)]
    rw [key]
  · simp only [satTr_cons, satTr_nil, sv_lss, sv_leq, sv_gtr, sv_geq, sv_eql, sv_neq, sv_not, sv_beq, sv_pick, sv_add, sv_sub, sv_mul, sv_shr32, sv_shr1, sv_shl63, sv_fn, sv_eqs, E.den, List.map, K.holds] at hs
    simp only [asrOK_cons, asrOK_nil, if_true, if_false, Bool.false_eq_true, E.den] at ha
    obtain ⟨⟨h35, k35⟩, ⟨h34, k34⟩, ⟨h33, k33⟩, ⟨h32, k32⟩, ⟨h31, k31⟩, ⟨h30, k30⟩, ⟨h29, k29⟩, ⟨h28, k28⟩, ⟨h27, k27⟩, ⟨h26, k26⟩, ⟨h25, k25⟩, ⟨h24, k24⟩, ⟨h23, k23⟩, ⟨h22, k22⟩, ⟨h21, k21⟩, ⟨h20, k20⟩, ⟨h19, k19⟩, ⟨h18, k18⟩, ⟨h17, k17⟩, ⟨h16, k16⟩, ⟨h15, k15⟩, ⟨h14, k14⟩, ⟨h13, k13⟩, ⟨h12, k12⟩, _⟩ := hs
    obtain ⟨a0, a1, a2, a3, a4, a5, a6, a7, a8, a9, a10, a11, _⟩ := ha
    have g12 : [ρ 12, ρ 13, ρ 14, ρ 15, ρ 16, ρ 17] = wds 6 (redM q ri (val [ρ 0, ρ 1, ρ 2, ρ 3, ρ 4, ρ 5])) := get6 rfl h12 h13 h14 h15 h16 h17
    have g18 : [ρ 18, ρ 19, ρ 20, ρ 21, ρ 22, ρ 23] = wds 6 (redM q ri (val [ρ 6, ρ 7, ρ 8, ρ 9, ρ 10, ρ 11])) := get6 rfl h18 h19 h20 h21 h22 h23
    have hx : val [ρ 12, ρ 13, ρ 14, ρ 15, ρ 16, ρ 17] = redM q ri (val [ρ 0, ρ 1, ρ 2, ρ 3, ρ 4, ρ 5]) := by rw [g12]; exact val_wds_of (red_lt q_pos).1 (Int.lt_trans (red_lt q_pos).2 q_lt)
    have hy : val [ρ 18, ρ 19, ρ 20, ρ 21, ρ 22, ρ 23] = redM q ri (val [ρ 6, ρ 7, ρ 8, ρ 9, ρ 10, ρ 11]) := by rw [g18]; exact val_wds_of (red_lt q_pos).1 (Int.lt_trans (red_lt q_pos).2 q_lt)
    have c24 := (no_of h24 a11)
    have c25 := (no_of h25 a10)
    have c26 := (no_of h26 a9)
    have c27 := (no_of h27 a8)
    have c28 := (no_of h28 a7)
    have c29 := (no_of h29 a6)
    have c30 := (no_of h30 a5)
    have c31 := (no_of h31 a4)
    have c32 := (no_of h32 a3)
    have c33 := (no_of h33 a2)
    have c34 := (no_of h34 a1)
    have c35 := (no_of h35 a0)
    change [ordI (redM q ri (val [ρ 0, ρ 1, ρ 2, ρ 3, ρ 4, ρ 5])) (redM q ri (val [ρ 6, ρ 7, ρ 8, ρ 9, ρ 10, ρ 11]))] = [0]
    rw [← hx, ← hy]
    clear h12 h13 h14 h15 h16 h17 h18 h19 h20 h21 h22 h23 h24 h25 h26 h27 h28 h29 h30 h31 h32 h33 h34 h35 a0 a1 a2 a3 a4 a5 a6 a7 a8 a9 a10 a11 hx hy g12 g18
    have key : ordI (val [ρ 12, ρ 13, ρ 14, ρ 15, ρ 16, ρ 17]) (val [ρ 18, ρ 19, ρ 20, ρ 21, ρ 22, ρ 23]) = 0 := by
      simp only [val]
      rw [ordI, if_neg (by omega), if_neg (by omega)]
    rw [key]

/-! ### iCmp -/
def su_iCmp : Summ := ⟨[.agg 6, .agg 6], none, [.sc (.i .i64)]⟩
def t_iCmp0 : CT := .leaf ⟨[(12, .i .i64, .fn 24 [.v 0, .v 1, .v 2, .v 3, .v 4, .v 5, .v 6, .v 7, .v 8, .v 9, .v 10, .v 11] 0)],
    [], [.v 12]⟩
theorem chk_iCmp : checkFn Try.prog [(24, su_cmp)] su_iCmp 400 Try.f16 (fun _ => t_iCmp0) = true := by kernel_rfl
theorem ok_iCmp : SummOK Try.prog 16 su_iCmp (Phi 16) := by
  refine summ_fn (Φ := Phi) 400 (fun _ => t_iCmp0) Try.func16 (tbl_cons ok_cmp tbl_nil) chk_iCmp ?_
  intro al hal l hl ρ hk hs ha
  have hn : su_iCmp.inKinds.length = 12 := rfl
  have hr : row ρ 12 = [ρ 0, ρ 1, ρ 2, ρ 3, ρ 4, ρ 5, ρ 6, ρ 7, ρ 8, ρ 9, ρ 10, ρ 11] := rfl
  rw [hn, hr] at hk ⊢
  simp only [su_iCmp, Summ.inKinds, List.flatMap_cons, List.flatMap_nil, List.replicate, List.cons_append, List.nil_append, List.append_nil, holdsAll, K.holds] at hk
  obtain ⟨b0, b1, b2, b3, b4, b5, b6, b7, b8, b9, b10, b11, _⟩ := hk
  simp only [t_iCmp0, CT.leaves, List.cons_append, List.nil_append, List.mem_cons, List.not_mem_nil, or_false] at hl
  subst hl
  simp only [satTr_cons, satTr_nil, sv_lss, sv_leq, sv_gtr, sv_geq, sv_eql, sv_neq, sv_not, sv_beq, sv_pick, sv_add, sv_sub, sv_mul, sv_shr32, sv_shr1, sv_shl63, sv_fn, sv_eqs, E.den, List.map, K.holds] at hs
  simp only [asrOK_cons, asrOK_nil, if_true, if_false, Bool.false_eq_true, E.den] at ha
  obtain ⟨⟨h12, k12⟩, _⟩ := hs
  clear ha
  have g12 : ρ 12 = ordI (redM q ri (val [ρ 0, ρ 1, ρ 2, ρ 3, ρ 4, ρ 5])) (redM q ri (val [ρ 6, ρ 7, ρ 8, ρ 9, ρ 10, ρ 11])) := h12
  exact congrArg (fun z => [z]) h12.symm

/-! ### less -/
def su_less : Summ := ⟨[.slc 6, .slc 6], none, [.sc .bool]⟩
def t_less0 : CT := .node (.v 12)
  (.leaf ⟨[(13, .bool, .cmp .lss (.v 5) (.v 11)),
    (12, .bool, .cmp .neq (.v 5) (.v 11))],
    [(.v 12, true)], [.v 13]⟩)
  (.node (.v 13)
  (.leaf ⟨[(14, .bool, .cmp .lss (.v 4) (.v 10)),
    (13, .bool, .cmp .neq (.v 4) (.v 10)),
    (12, .bool, .cmp .neq (.v 5) (.v 11))],
    [(.v 13, true), (.v 12, false)], [.v 14]⟩)
  (.node (.v 14)
  (.leaf ⟨[(15, .bool, .cmp .lss (.v 3) (.v 9)),
    (14, .bool, .cmp .neq (.v 3) (.v 9)),
    (13, .bool, .cmp .neq (.v 4) (.v 10)),
    (12, .bool, .cmp .neq (.v 5) (.v 11))],
    [(.v 14, true), (.v 13, false), (.v 12, false)], [.v 15]⟩)
  (.node (.v 15)
  (.leaf ⟨[(16, .bool, .cmp .lss (.v 2) (.v 8)),
    (15, .bool, .cmp .neq (.v 2) (.v 8)),
    (14, .bool, .cmp .neq (.v 3) (.v 9)),
    (13, .bool, .cmp .neq (.v 4) (.v 10)),
    (12, .bool, .cmp .neq (.v 5) (.v 11))],
    [(.v 15, true), (.v 14, false), (.v 13, false), (.v 12, false)], [.v 16]⟩)
  (.node (.v 16)
  (.leaf ⟨[(17, .bool, .cmp .lss (.v 1) (.v 7)),
    (16, .bool, .cmp .neq (.v 1) (.v 7)),
    (15, .bool, .cmp .neq (.v 2) (.v 8)),
    (14, .bool, .cmp .neq (.v 3) (.v 9)),
    (13, .bool, .cmp .neq (.v 4) (.v 10)),
    (12, .bool, .cmp .neq (.v 5) (.v 11))],
    [(.v 16, true), (.v 15, false), (.v 14, false), (.v 13, false), (.v 12, false)], [.v 17]⟩)
  (.node (.v 17)
  (.leaf ⟨[(18, .bool, .cmp .lss (.v 0) (.v 6)),
    (17, .bool, .cmp .neq (.v 0) (.v 6)),
    (16, .bool, .cmp .neq (.v 1) (.v 7)),
    (15, .bool, .cmp .neq (.v 2) (.v 8)),
    (14, .bool, .cmp .neq (.v 3) (.v 9)),
    (13, .bool, .cmp .neq (.v 4) (.v 10)),
    (12, .bool, .cmp .neq (.v 5) (.v 11))],
    [(.v 17, true), (.v 16, false), (.v 15, false), (.v 14, false), (.v 13, false), (.v 12, false)], [.v 18]⟩)
  (.leaf ⟨[(17, .bool, .cmp .neq (.v 0) (.v 6)),
    (16, .bool, .cmp .neq (.v 1) (.v 7)),
    (15, .bool, .cmp .neq (.v 2) (.v 8)),
    (14, .bool, .cmp .neq (.v 3) (.v 9)),
    (13, .bool, .cmp .neq (.v 4) (.v 10)),
    (12, .bool, .cmp .neq (.v 5) (.v 11))],
    [(.v 17, false), (.v 16, false), (.v 15, false), (.v 14, false), (.v 13, false), (.v 12, false)], [.c 0]⟩))))))
theorem chk_less : checkFn Try.prog [] su_less 400 Try.f6 (fun _ => t_less0) = true := by kernel_rfl
theorem ok_less : SummOK Try.prog 6 su_less (Phi 6) := by
  refine summ_fn (Φ := Phi) 400 (fun _ => t_less0) Try.func6 tbl_nil chk_less ?_
  intro al hal l hl ρ hk hs ha
  have hn : su_less.inKinds.length = 12 := rfl
  have hr : row ρ 12 = [ρ 0, ρ 1, ρ 2, ρ 3, ρ 4, ρ 5, ρ 6, ρ 7, ρ 8, ρ 9, ρ 10, ρ 11] := rfl
  rw [hn, hr] at hk ⊢
  simp only [su_less, Summ.inKinds, List.flatMap_cons, List.flatMap_nil, List.replicate, List.cons_append, List.nil_append, List.append_nil, holdsAll, K.holds] at hk
  obtain ⟨b0, b1, b2, b3, b4, b5, b6, b7, b8, b9, b10, b11, _⟩ := hk
  simp only [t_less0, CT.leaves, List.cons_append, List.nil_append, List.mem_cons, List.not_mem_nil, or_false] at hl
  rcases hl with rfl | rfl | rfl | rfl | rfl | rfl | rfl
  · simp only [satTr_cons, satTr_nil, sv_lss, sv_leq, sv_gtr, sv_geq, sv_eql, sv_neq, sv_not, sv_beq, sv_pick, sv_add, sv_sub, sv_mul, sv_shr32, sv_shr1, sv_shl63, sv_fn, sv_eqs, E.den, List.map, K.holds] at hs
    simp only [asrOK_cons, asrOK_nil, if_true, if_false, Bool.false_eq_true, E.den] at ha
    obtain ⟨⟨h13, k13⟩, ⟨h12, k12⟩, _⟩ := hs
    obtain ⟨a0, _⟩ := ha
    refine dec_one (p := val [ρ 0, ρ 1, ρ 2, ρ 3, ρ 4, ρ 5] < val [ρ 6, ρ 7, ρ 8, ρ 9, ρ 10, ρ 11]) (z := ρ 13) ?_
    simp only [val, q, List.cons.injEq, and_true]
    omega
  · simp only [satTr_cons, satTr_nil, sv_lss, sv_leq, sv_gtr, sv_geq, sv_eql, sv_neq, sv_not, sv_beq, sv_pick, sv_add, sv_sub, sv_mul, sv_shr32, sv_shr1, sv_shl63, sv_fn, sv_eqs, E.den, List.map, K.holds] at hs
    simp only [asrOK_cons, asrOK_nil, if_true, if_false, Bool.false_eq_true, E.den] at ha
    obtain ⟨⟨h14, k14⟩, ⟨h13, k13⟩, ⟨h12, k12⟩, _⟩ := hs
    obtain ⟨a0, a1, _⟩ := ha
    refine dec_one (p := val [ρ 0, ρ 1, ρ 2, ρ 3, ρ 4, ρ 5] < val [ρ 6, ρ 7, ρ 8, ρ 9, ρ 10, ρ 11]) (z := ρ 14) ?_
    simp only [val, q, List.cons.injEq, and_true]
    omega
  · simp only [satTr_cons, satTr_nil, sv_lss, sv_leq, sv_gtr, sv_geq, sv_eql, sv_neq, sv_not, sv_beq, sv_pick, sv_add, sv_sub, sv_mul, sv_shr32, sv_shr1, sv_shl63, sv_fn, sv_eqs, E.den, List.map, K.holds] at hs
    simp only [asrOK_cons, asrOK_nil, if_true, if_false, Bool.false_eq_true, E.den] at ha
    obtain ⟨⟨h15, k15⟩, ⟨h14, k14⟩, ⟨h13, k13⟩, ⟨h12, k12⟩, _⟩ := hs
    obtain ⟨a0, a1, a2, _⟩ := ha
    refine dec_one (p := val [ρ 0, ρ 1, ρ 2, ρ 3, ρ 4, ρ 5] < val [ρ 6, ρ 7, ρ 8, ρ 9, ρ 10, ρ 11]) (z := ρ 15) ?_
    simp only [val, q, List.cons.injEq, and_true]
    omega
  · simp only [satTr_cons, satTr_nil, sv_lss, sv_leq, sv_gtr, sv_geq, sv_eql, sv_neq, sv_not, sv_beq, sv_pick, sv_add, sv_sub, sv_mul, sv_shr32, sv_shr1, sv_shl63, sv_fn, sv_eqs, E.den, List.map, K.holds] at hs
    simp only [asrOK_cons, asrOK_nil, if_true, if_false, Bool.false_eq_true, E.den] at ha
    obtain ⟨⟨h16, k16⟩, ⟨h15, k15⟩, ⟨h14, k14⟩, ⟨h13, k13⟩, ⟨h12, k12⟩, _⟩ := hs
    obtain ⟨a0, a1, a2, a3, _⟩ := ha
    refine dec_one (p := val [ρ 0, ρ 1, ρ 2, ρ 3, ρ 4, ρ 5] < val [ρ 6, ρ 7, ρ 8, ρ 9, ρ 10, ρ 11]) (z := ρ 16) ?_
    simp only [val, q, List.cons.injEq, and_true]
    omega
  · simp only [satTr_cons, satTr_nil, sv_lss, sv_leq, sv_gtr, sv_geq, sv_eql, sv_neq, sv_not, sv_beq, sv_pick, sv_add, sv_sub, sv_mul, sv_shr32, sv_shr1, sv_shl63, sv_fn, sv_eqs, E.den, List.map, K.holds] at hs
    simp only [asrOK_cons, asrOK_nil, if_true, if_false, Bool.false_eq_true, E.den] at ha
    obtain ⟨⟨h17, k17⟩, ⟨h16, k16⟩, ⟨h15, k15⟩, ⟨h14, k14⟩, ⟨h13, k13⟩, ⟨h12, k12⟩, _⟩ := hs
    obtain ⟨a0, a1, a2, a3, a4, _⟩ := ha
    refine dec_one (p := val [ρ 0, ρ 1, ρ 2, ρ 3, ρ 4, ρ 5] < val [ρ 6, ρ 7, ρ 8, ρ 9, ρ 10, ρ 11]) (z := ρ 17) ?_
    simp only [val, q, List.cons.injEq, and_true]
    omega
  · simp only [satTr_cons, satTr_nil, sv_lss, sv_leq, sv_gtr, sv_geq, sv_eql, sv_neq, sv_not, sv_beq, sv_pick, sv_add, sv_sub, sv_mul, sv_shr32, sv_shr1, sv_shl63, sv_fn, sv_eqs, E.den, List.map, K.holds] at hs
    simp only [asrOK_cons, asrOK_nil, if_true, if_false, Bool.false_eq_true, E.den] at ha
    obtain ⟨⟨h18, k18⟩, ⟨h17, k17⟩, ⟨h16, k16⟩, ⟨h15, k15⟩, ⟨h14, k14⟩, ⟨h13, k13⟩, ⟨h12, k12⟩, _⟩ := hs
    obtain ⟨a0, a1, a2, a3, a4, a5, _⟩ := ha
    refine dec_one (p := val [ρ 0, ρ 1, ρ 2, ρ 3, ρ 4, ρ 5] < val [ρ 6, ρ 7, ρ 8, ρ 9, ρ 10, ρ 11]) (z := ρ 18) ?_
    simp only [val, q, List.cons.injEq, and_true]
    omega
  · simp only [satTr_cons, satTr_nil, sv_lss, sv_leq, sv_gtr, sv_geq, sv_eql, sv_neq, sv_not, sv_beq, sv_pick, sv_add, sv_sub, sv_mul, sv_shr32, sv_shr1, sv_shl63, sv_fn, sv_eqs, E.den, List.map, K.holds] at hs
    simp only [asrOK_cons, asrOK_nil, if_true, if_false, Bool.false_eq_true, E.den] at ha
    obtain ⟨⟨h17, k17⟩, ⟨h16, k16⟩, ⟨h15, k15⟩, ⟨h14, k14⟩, ⟨h13, k13⟩, ⟨h12, k12⟩, _⟩ := hs
    obtain ⟨a0, a1, a2, a3, a4, a5, _⟩ := ha
    refine dec_one (p := val [ρ 0, ρ 1, ρ 2, ρ 3, ρ 4, ρ 5] < val [ρ 6, ρ 7, ρ 8, ρ 9, ρ 10, ρ 11]) (z := 0) ?_
    simp only [val, q, List.cons.injEq, and_true]
    omega

/-! ### same -/
def su_same : Summ := ⟨[.slc 6, .slc 6], none, [.sc .bool]⟩
def t_same0 : CT := .node (.v 12)
  (.leaf ⟨[(12, .bool, .cmp .neq (.v 0) (.v 6))],
    [(.v 12, true)], [.c 0]⟩)
  (.node (.v 13)
  (.leaf ⟨[(13, .bool, .cmp .neq (.v 1) (.v 7)),
    (12, .bool, .cmp .neq (.v 0) (.v 6))],
    [(.v 13, true), (.v 12, false)], [.c 0]⟩)
  (.node (.v 14)
  (.leaf ⟨[(14, .bool, .cmp .neq (.v 2) (.v 8)),
    (13, .bool, .cmp .neq (.v 1) (.v 7)),
    (12, .bool, .cmp .neq (.v 0) (.v 6))],
    [(.v 14, true), (.v 13, false), (.v 12, false)], [.c 0]⟩)
  (.node (.v 15)
  (.leaf ⟨[(15, .bool, .cmp .neq (.v 3) (.v 9)),
    (14, .bool, .cmp .neq (.v 2) (.v 8)),
    (13, .bool, .cmp .neq (.v 1) (.v 7)),
    (12, .bool, .cmp .neq (.v 0) (.v 6))],
    [(.v 15, true), (.v 14, false), (.v 13, false), (.v 12, false)], [.c 0]⟩)
  (.node (.v 16)
  (.leaf ⟨[(16, .bool, .cmp .neq (.v 4) (.v 10)),
    (15, .bool, .cmp .neq (.v 3) (.v 9)),
    (14, .bool, .cmp .neq (.v 2) (.v 8)),
    (13, .bool, .cmp .neq (.v 1) (.v 7)),
    (12, .bool, .cmp .neq (.v 0) (.v 6))],
    [(.v 16, true), (.v 15, false), (.v 14, false), (.v 13, false), (.v 12, false)], [.c 0]⟩)
  (.node (.v 17)
  (.leaf ⟨[(17, .bool, .cmp .neq (.v 5) (.v 11)),
    (16, .bool, .cmp .neq (.v 4) (.v 10)),
    (15, .bool, .cmp .neq (.v 3) (.v 9)),
    (14, .bool, .cmp .neq (.v 2) (.v 8)),
    (13, .bool, .cmp .neq (.v 1) (.v 7)),
    (12, .bool, .cmp .neq (.v 0) (.v 6))],
    [(.v 17, true), (.v 16, false), (.v 15, false), (.v 14, false), (.v 13, false), (.v 12, false)], [.c 0]⟩)
  (.leaf ⟨[(17, .bool, .cmp .neq (.v 5) (.v 11)),
    (16, .bool, .cmp .neq (.v 4) (.v 10)),
    (15, .bool, .cmp .neq (.v 3) (.v 9)),
    (14, .bool, .cmp .neq (.v 2) (.v 8)),
    (13, .bool, .cmp .neq (.v 1) (.v 7)),
    (12, .bool, .cmp .neq (.v 0) (.v 6))],
    [(.v 17, false), (.v 16, false), (.v 15, false), (.v 14, false), (.v 13, false), (.v 12, false)], [.c 1]⟩))))))
theorem chk_same : checkFn Try.prog [] su_same 400 Try.f9 (fun _ => t_same0) = true := by kernel_rfl
theorem ok_same : SummOK Try.prog 9 su_same (Phi 9) := by
  refine summ_fn (Φ := Phi) 400 (fun _ => t_same0) Try.func9 tbl_nil chk_same ?_
  intro al hal l hl ρ hk hs ha
  have hn : su_same.inKinds.length = 12 := rfl
  have hr : row ρ 12 = [ρ 0, ρ 1, ρ 2, ρ 3, ρ 4, ρ 5, ρ 6, ρ 7, ρ 8, ρ 9, ρ 10, ρ 11] := rfl
  rw [hn, hr] at hk ⊢
  simp only [su_same, Summ.inKinds, List.flatMap_cons, List.flatMap_nil, List.replicate, List.cons_append, List.nil_append, List.append_nil, holdsAll, K.holds] at hk
  obtain ⟨b0, b1, b2, b3, b4, b5, b6, b7, b8, b9, b10, b11, _⟩ := hk
  simp only [t_same0, CT.leaves, List.cons_append, List.nil_append, List.mem_cons, List.not_mem_nil, or_false] at hl
  rcases hl with rfl | rfl | rfl | rfl | rfl | rfl | rfl
  · simp only [satTr_cons, satTr_nil, sv_lss, sv_leq, sv_gtr, sv_geq, sv_eql, sv_neq, sv_not, sv_beq, sv_pick, sv_add, sv_sub, sv_mul, sv_shr32, sv_shr1, sv_shl63, sv_fn, sv_eqs, E.den, List.map, K.holds] at hs
    simp only [asrOK_cons, asrOK_nil, if_true, if_false, Bool.false_eq_true, E.den] at ha
    obtain ⟨⟨h12, k12⟩, _⟩ := hs
    obtain ⟨a0, _⟩ := ha
    refine dec_one (p := [ρ 0, ρ 1, ρ 2, ρ 3, ρ 4, ρ 5] = [ρ 6, ρ 7, ρ 8, ρ 9, ρ 10, ρ 11]) (z := 0) ?_
    simp only [val, q, List.cons.injEq, and_true]
    omega
  · simp only [satTr_cons, satTr_nil, sv_lss, sv_leq, sv_gtr, sv_geq, sv_eql, sv_neq, sv_not, sv_beq, sv_pick, sv_add, sv_sub, sv_mul, sv_shr32, sv_shr1, sv_shl63, sv_fn, sv_eqs, E.den, List.map, K.holds] at hs
    simp only [asrOK_cons, asrOK_nil, if_true, if_false, Bool.false_eq_true, E.den] at ha
    obtain ⟨⟨h13, k13⟩, ⟨h12, k12⟩, _⟩ := hs
    obtain ⟨a0, a1, _⟩ := ha
    refine dec_one (p := [ρ 0, ρ 1, ρ 2, ρ 3, ρ 4, ρ 5] = [ρ 6, ρ 7, ρ 8, ρ 9, ρ 10, ρ 11]) (z := 0) ?_
    simp only [val, q, List.cons.injEq, and_true]
    omega
  · simp only [satTr_cons, satTr_nil, sv_lss, sv_leq, sv_gtr, sv_geq, sv_eql, sv_neq, sv_not, sv_beq, sv_pick, sv_add, sv_sub, sv_mul, sv_shr32, sv_shr1, sv_shl63, sv_fn, sv_eqs, E.den, List.map, K.holds] at hs
    simp only [asrOK_cons, asrOK_nil, if_true, if_false, Bool.false_eq_true, E.den] at ha
    obtain ⟨⟨h14, k14⟩, ⟨h13, k13⟩, ⟨h12, k12⟩, _⟩ := hs
    obtain ⟨a0, a1, a2, _⟩ := ha
    refine dec_one (p := [ρ 0, ρ 1, ρ 2, ρ 3, ρ 4, ρ 5] = [ρ 6, ρ 7, ρ 8, ρ 9, ρ 10, ρ 11]) (z := 0) ?_
    simp only [val, q, List.cons.injEq, and_true]
    omega
  · simp only [satTr_cons, satTr_nil, sv_lss, sv_leq, sv_gtr, sv_geq, sv_eql, sv_neq, sv_not, sv_beq, sv_pick, sv_add, sv_sub, sv_mul, sv_shr32, sv_shr1, sv_shl63, sv_fn, sv_eqs, E.den, List.map, K.holds] at hs
    simp only [asrOK_cons, asrOK_nil, if_true, if_false, Bool.false_eq_true, E.den] at ha
    obtain ⟨⟨h15, k15⟩, ⟨h14, k14⟩, ⟨h13, k13⟩, ⟨h12, k12⟩, _⟩ := hs
    obtain ⟨a0, a1, a2, a3, _⟩ := ha
    refine dec_one (p := [ρ 0, ρ 1, ρ 2, ρ 3, ρ 4, ρ 5] = [ρ 6, ρ 7, ρ 8, ρ 9, ρ 10, ρ 11]) (z := 0) ?_
    simp only [val, q, List.cons.injEq, and_true]
    omega
  · simp only [satTr_cons, satTr_nil, sv_lss, sv_leq, sv_gtr, sv_geq, sv_eql, sv_neq, sv_not, sv_beq, sv_pick, sv_add, sv_sub, sv_mul, sv_shr32, sv_shr1, sv_shl63, sv_fn, sv_eqs, E.den, List.map, K.holds] at hs
    simp only [asrOK_cons, asrOK_nil, if_true, if_false, Bool.false_eq_true, E.den] at ha
    obtain ⟨⟨h16, k16⟩, ⟨h15, k15⟩, ⟨h14, k14⟩, ⟨h13, k13⟩, ⟨h12, k12⟩, _⟩ := hs
    obtain ⟨a0, a1, a2, a3, a4, _⟩ := ha
    refine dec_one (p := [ρ 0, ρ 1, ρ 2, ρ 3, ρ 4, ρ 5] = [ρ 6, ρ 7, ρ 8, ρ 9, ρ 10, ρ 11]) (z := 0) ?_
    simp only [val, q, List.cons.injEq, and_true]
    omega
  · simp only [satTr_cons, satTr_nil, sv_lss, sv_leq, sv_gtr, sv_geq, sv_eql, sv_neq, sv_not, sv_beq, sv_pick, sv_add, sv_sub, sv_mul, sv_shr32, sv_shr1, sv_shl63, sv_fn, sv_eqs, E.den, List.map, K.holds] at hs
    simp only [asrOK_cons, asrOK_nil, if_true, if_false, Bool.false_eq_true, E.den] at ha
    obtain ⟨⟨h17, k17⟩, ⟨h16, k16⟩, ⟨h15, k15⟩, ⟨h14, k14⟩, ⟨h13, k13⟩, ⟨h12, k12⟩, _⟩ := hs
    obtain ⟨a0, a1, a2, a3, a4, a5, _⟩ := ha
    refine dec_one (p := [ρ 0, ρ 1, ρ 2, ρ 3, ρ 4, ρ 5] = [ρ 6, ρ 7, ρ 8, ρ 9, ρ 10, ρ 11]) (z := 0) ?_
    simp only [val, q, List.cons.injEq, and_true]
    omega
  · simp only [satTr_cons, satTr_nil, sv_lss, sv_leq, sv_gtr, sv_geq, sv_eql, sv_neq, sv_not, sv_beq, sv_pick, sv_add, sv_sub, sv_mul, sv_shr32, sv_shr1, sv_shl63, sv_fn, sv_eqs, E.den, List.map, K.holds] at hs
    simp only [asrOK_cons, asrOK_nil, if_true, if_false, Bool.false_eq_true, E.den] at ha
    obtain ⟨⟨h17, k17⟩, ⟨h16, k16⟩, ⟨h15, k15⟩, ⟨h14, k14⟩, ⟨h13, k13⟩, ⟨h12, k12⟩, _⟩ := hs
    obtain ⟨a0, a1, a2, a3, a4, a5, _⟩ := ha
    refine dec_one (p := [ρ 0, ρ 1, ρ 2, ρ 3, ρ 4, ρ 5] = [ρ 6, ρ 7, ρ 8, ρ 9, ρ 10, ρ 11]) (z := 1) ?_
    simp only [val, q, List.cons.injEq, and_true]
    omega

/-! ### prime -/
def su_prime : Summ := ⟨[], none, [.slc 6]⟩
def t_prime0 : CT := .leaf ⟨[],
    [], [.c 13402431016077863595, .c 2210141511517208575, .c 7435674573564081700, .c 7239337960414712511, .c 5412103778470702295, .c 1873798617647539866]⟩
theorem chk_prime : checkFn Try.prog [] su_prime 400 Try.f7 (fun _ => t_prime0) = true := by kernel_rfl
theorem ok_prime : SummOK Try.prog 7 su_prime (Phi 7) := by
  refine summ_fn (Φ := Phi) 400 (fun _ => t_prime0) Try.func7 tbl_nil chk_prime ?_
  intro al hal l hl ρ hk hs ha
  have hn : su_prime.inKinds.length = 0 := rfl
  have hr : row ρ 0 = [] := rfl
  rw [hn, hr] at hk ⊢
  simp only [su_prime, Summ.inKinds, List.flatMap_cons, List.flatMap_nil, List.replicate, List.cons_append, List.nil_append, List.append_nil, holdsAll, K.holds] at hk
  simp only [t_prime0, CT.leaves, List.cons_append, List.nil_append, List.mem_cons, List.not_mem_nil, or_false] at hl
  subst hl
  simp only [satTr_cons, satTr_nil, sv_lss, sv_leq, sv_gtr, sv_geq, sv_eql, sv_neq, sv_not, sv_beq, sv_pick, sv_add, sv_sub, sv_mul, sv_shr32, sv_shr1, sv_shl63, sv_fn, sv_eqs, E.den, List.map, K.holds] at hs
  simp only [asrOK_cons, asrOK_nil, if_true, if_false, Bool.false_eq_true, E.den] at ha
  clear hs
  clear ha
  change wds 6 q = [13402431016077863595, 2210141511517208575, 7435674573564081700, 7239337960414712511, 5412103778470702295, 1873798617647539866]
  kernel_rfl

/-! ### plus -/
def su_plus : Summ := ⟨[.slc 6, .slc 6], none, [.slc 6, .sc .bool]⟩
def t_plus0 : CT := .leaf ⟨[(48, .bool, .cmp .eql (.v 47) (.c 1)),
    (47, .i .u64, .pick (.v 46) (.c 1) (.c 0)),
    (46, .bool, .pick (.v 43) (.c 1) (.v 45)),
    (45, .bool, .cmp .lss (.v 44) (.v 42)),
    (44, .i .u64, .bin .add .u64 (.v 42) (.v 11)),
    (43, .bool, .cmp .lss (.v 42) (.v 41)),
    (42, .i .u64, .bin .add .u64 (.v 5) (.v 41)),
    (41, .i .u64, .pick (.v 40) (.c 1) (.c 0)),
    (40, .bool, .pick (.v 37) (.c 1) (.v 39)),
    (39, .bool, .cmp .lss (.v 38) (.v 36)),
    (38, .i .u64, .bin .add .u64 (.v 36) (.v 10)),
    (37, .bool, .cmp .lss (.v 36) (.v 35)),
    (36, .i .u64, .bin .add .u64 (.v 4) (.v 35)),
    (35, .i .u64, .pick (.v 34) (.c 1) (.c 0)),
    (34, .bool, .pick (.v 31) (.c 1) (.v 33)),
    (33, .bool, .cmp .lss (.v 32) (.v 30)),
    (32, .i .u64, .bin .add .u64 (.v 30) (.v 9)),
    (31, .bool, .cmp .lss (.v 30) (.v 29)),
    (30, .i .u64, .bin .add .u64 (.v 3) (.v 29)),
    (29, .i .u64, .pick (.v 28) (.c 1) (.c 0)),
    (28, .bool, .pick (.v 25) (.c 1) (.v 27)),
    (27, .bool, .cmp .lss (.v 26) (.v 24)),
    (26, .i .u64, .bin .add .u64 (.v 24) (.v 8)),
    (25, .bool, .cmp .lss (.v 24) (.v 23)),
    (24, .i .u64, .bin .add .u64 (.v 2) (.v 23)),
    (23, .i .u64, .pick (.v 22) (.c 1) (.c 0)),
    (22, .bool, .pick (.v 19) (.c 1) (.v 21)),
    (21, .bool, .cmp .lss (.v 20) (.v 18)),
    (20, .i .u64, .bin .add .u64 (.v 18) (.v 7)),
    (19, .bool, .cmp .lss (.v 18) (.v 17)),
    (18, .i .u64, .bin .add .u64 (.v 1) (.v 17)),
    (17, .i .u64, .pick (.v 16) (.c 1) (.c 0)),
    (16, .bool, .pick (.v 13) (.c 1) (.v 15)),
    (15, .bool, .cmp .lss (.v 14) (.v 12)),
    (14, .i .u64, .bin .add .u64 (.v 12) (.v 6)),
    (13, .bool, .cmp .lss (.v 12) (.c 0)),
    (12, .i .u64, .bin .add .u64 (.v 0) (.c 0))],
    [], [.v 14, .v 20, .v 26, .v 32, .v 38, .v 44, .v 48]⟩
theorem chk_plus : checkFn Try.prog [] su_plus 400 Try.f19 (fun _ => t_plus0) = true := by kernel_rfl
theorem ok_plus : SummOK Try.prog 19 su_plus (Phi 19) := by
  refine summ_fn (Φ := Phi) 400 (fun _ => t_plus0) Try.func19 tbl_nil chk_plus ?_
  intro al hal l hl ρ hk hs ha
  have hn : su_plus.inKinds.length = 12 := rfl
  have hr : row ρ 12 = [ρ 0, ρ 1, ρ 2, ρ 3, ρ 4, ρ 5, ρ 6, ρ 7, ρ 8, ρ 9, ρ 10, ρ 11] := rfl
  rw [hn, hr] at hk ⊢
  simp only [su_plus, Summ.inKinds, List.flatMap_cons, List.flatMap_nil, List.replicate, List.cons_append, List.nil_append, List.append_nil, holdsAll, K.holds] at hk
  obtain ⟨b0, b1, b2, b3, b4, b5, b6, b7, b8, b9, b10, b11, _⟩ := hk
  simp only [t_plus0, CT.leaves, List.cons_append, List.nil_append, List.mem_cons, List.not_mem_nil, or_false] at hl
  subst hl
  simp only [satTr_cons, satTr_nil, sv_lss, sv_leq, sv_gtr, sv_geq, sv_eql, sv_neq, sv_not, sv_beq, sv_pick, sv_add, sv_sub, sv_mul, sv_shr32, sv_shr1, sv_shl63, sv_fn, sv_eqs, E.den, List.map, K.holds] at hs
  simp only [asrOK_cons, asrOK_nil, if_true, if_false, Bool.false_eq_true, E.den] at ha
  obtain ⟨⟨h48, k48⟩, ⟨h47, k47⟩, ⟨h46, k46⟩, ⟨h45, k45⟩, ⟨h44, k44⟩, ⟨h43, k43⟩, ⟨h42, k42⟩, ⟨h41, k41⟩, ⟨h40, k40⟩, ⟨h39, k39⟩, ⟨h38, k38⟩, ⟨h37, k37⟩, ⟨h36, k36⟩, ⟨h35, k35⟩, ⟨h34, k34⟩, ⟨h33, k33⟩, ⟨h32, k32⟩, ⟨h31, k31⟩, ⟨h30, k30⟩, ⟨h29, k29⟩, ⟨h28, k28⟩, ⟨h27, k27⟩, ⟨h26, k26⟩, ⟨h25, k25⟩, ⟨h24, k24⟩, ⟨h23, k23⟩, ⟨h22, k22⟩, ⟨h21, k21⟩, ⟨h20, k20⟩, ⟨h19, k19⟩, ⟨h18, k18⟩, ⟨h17, k17⟩, ⟨h16, k16⟩, ⟨h15, k15⟩, ⟨h14, k14⟩, ⟨h13, k13⟩, ⟨h12, k12⟩, _⟩ := hs
  clear ha
  obtain ⟨r0, c0⟩ := plus_round b0 b6 (.inl rfl) h12 h13 h14 h15 h16 h17
  obtain ⟨r1, c1⟩ := plus_round b1 b7 c0 h18 h19 h20 h21 h22 h23
  obtain ⟨r2, c2⟩ := plus_round b2 b8 c1 h24 h25 h26 h27 h28 h29
  obtain ⟨r3, c3⟩ := plus_round b3 b9 c2 h30 h31 h32 h33 h34 h35
  obtain ⟨r4, c4⟩ := plus_round b4 b10 c3 h36 h37 h38 h39 h40 h41
  obtain ⟨r5, c5⟩ := plus_round b5 b11 c4 h42 h43 h44 h45 h46 h47
  clear h12 h13 h14 h15 h16 h17 h18 h19 h20 h21 h22 h23 h24 h25 h26 h27 h28 h29 h30 h31 h32 h33 h34 h35 h36 h37 h38 h39 h40 h41 h42 h43 h44 h45 h46 h47
  refine plus_done (n := 6) (a := [ρ 0, ρ 1, ρ 2, ρ 3, ρ 4, ρ 5]) (b := [ρ 6, ρ 7, ρ 8, ρ 9, ρ 10, ρ 11]) (s := [ρ 14, ρ 20, ρ 26, ρ 32, ρ 38, ρ 44]) (c := ρ 47) (d := ρ 48) (u64s_cons k14 (u64s_cons k20 (u64s_cons k26 (u64s_cons k32 (u64s_cons k38 (u64s_cons k44 u64s_nil)))))) rfl ?_ c5 h48
  simp only [val, big]
  omega

/-! ### half -/
def su_half : Summ := ⟨[.slc 6], none, [.slc 6]⟩
def t_half0 : CT := .leaf ⟨[(21, .i .u64, .shr .u64 (.v 5) (.c 1)),
    (20, .i .u64, .bin .add .u64 (.v 18) (.v 19)),
    (19, .i .u64, .shl .u64 (.v 5) (.c 63)),
    (18, .i .u64, .shr .u64 (.v 4) (.c 1)),
    (17, .i .u64, .bin .add .u64 (.v 15) (.v 16)),
    (16, .i .u64, .shl .u64 (.v 4) (.c 63)),
    (15, .i .u64, .shr .u64 (.v 3) (.c 1)),
    (14, .i .u64, .bin .add .u64 (.v 12) (.v 13)),
    (13, .i .u64, .shl .u64 (.v 3) (.c 63)),
    (12, .i .u64, .shr .u64 (.v 2) (.c 1)),
    (11, .i .u64, .bin .add .u64 (.v 9) (.v 10)),
    (10, .i .u64, .shl .u64 (.v 2) (.c 63)),
    (9, .i .u64, .shr .u64 (.v 1) (.c 1)),
    (8, .i .u64, .bin .add .u64 (.v 6) (.v 7)),
    (7, .i .u64, .shl .u64 (.v 1) (.c 63)),
    (6, .i .u64, .shr .u64 (.v 0) (.c 1))],
    [], [.v 8, .v 11, .v 14, .v 17, .v 20, .v 21]⟩
theorem chk_half : checkFn Try.prog [] su_half 400 Try.f20 (fun _ => t_half0) = true := by kernel_rfl
theorem ok_half : SummOK Try.prog 20 su_half (Phi 20) := by
  refine summ_fn (Φ := Phi) 400 (fun _ => t_half0) Try.func20 tbl_nil chk_half ?_
  intro al hal l hl ρ hk hs ha
  have hn : su_half.inKinds.length = 6 := rfl
  have hr : row ρ 6 = [ρ 0, ρ 1, ρ 2, ρ 3, ρ 4, ρ 5] := rfl
  rw [hn, hr] at hk ⊢
  simp only [su_half, Summ.inKinds, List.flatMap_cons, List.flatMap_nil, List.replicate, List.cons_append, List.nil_append, List.append_nil, holdsAll, K.holds] at hk
  obtain ⟨b0, b1, b2, b3, b4, b5, _⟩ := hk
  simp only [t_half0, CT.leaves, List.cons_append, List.nil_append, List.mem_cons, List.not_mem_nil, or_false] at hl
  subst hl
  simp only [satTr_cons, satTr_nil, sv_lss, sv_leq, sv_gtr, sv_geq, sv_eql, sv_neq, sv_not, sv_beq, sv_pick, sv_add, sv_sub, sv_mul, sv_shr32, sv_shr1, sv_shl63, sv_fn, sv_eqs, E.den, List.map, K.holds] at hs
  simp only [asrOK_cons, asrOK_nil, if_true, if_false, Bool.false_eq_true, E.den] at ha
  obtain ⟨⟨h21, k21⟩, ⟨h20, k20⟩, ⟨h19, k19⟩, ⟨h18, k18⟩, ⟨h17, k17⟩, ⟨h16, k16⟩, ⟨h15, k15⟩, ⟨h14, k14⟩, ⟨h13, k13⟩, ⟨h12, k12⟩, ⟨h11, k11⟩, ⟨h10, k10⟩, ⟨h9, k9⟩, ⟨h8, k8⟩, ⟨h7, k7⟩, ⟨h6, k6⟩, _⟩ := hs
  clear ha
  have p0 := half_word b0 h6 h7 h8
  have p1 := half_word b1 h9 h10 h11
  have p2 := half_word b2 h12 h13 h14
  have p3 := half_word b3 h15 h16 h17
  have p4 := half_word b4 h18 h19 h20
  have p5 := half_top h21
  exact half_done (n := 6) (u64s_cons k8 (u64s_cons k11 (u64s_cons k14 (u64s_cons k17 (u64s_cons k20 (u64s_cons k21 u64s_nil)))))) rfl (half_chain6 p0 p1 p2 p3 p4 p5) (Int.emod_two_eq _)

/-! ### regular -/
def su_regular : Summ := ⟨[.slc 6, .slc 6], none, [.slc 6]⟩
def form_regular : Tmpl := { kin := [.i .u64, .i .u64, .i .u64, .i .u64, .i .u64, .i .u64, .i .u64, .i .u64, .i .u64, .i .u64, .i .u64, .i .u64, .i .i64], slots := [(0, .s (.slc 2 0 6 6)), (1, .s (.slc 1 0 6 6)), (5, .s (.int .i64 (.v 12)))], mem := [(2, [.int .u64 (.v 0), .int .u64 (.v 1), .int .u64 (.v 2), .int .u64 (.v 3), .int .u64 (.v 4), .int .u64 (.v 5)]), (1, [.int .u64 (.v 6), .int .u64 (.v 7), .int .u64 (.v 8), .int .u64 (.v 9), .int .u64 (.v 10), .int .u64 (.v 11)])], nr := 3 }
def t_regular0 : CT := .node (.v 13)
  (.leaf ⟨[(28, .i .u64, .pick (.v 20) (.v 27) (.v 26)),
    (27, .i .u64, .bin .add .u64 (.v 26) (.c 9223372036854775808)),
    (26, .i .u64, .fn 20 [.v 14, .v 15, .v 16, .v 17, .v 18, .v 19] 5),
    (25, .i .u64, .fn 20 [.v 14, .v 15, .v 16, .v 17, .v 18, .v 19] 4),
    (24, .i .u64, .fn 20 [.v 14, .v 15, .v 16, .v 17, .v 18, .v 19] 3),
    (23, .i .u64, .fn 20 [.v 14, .v 15, .v 16, .v 17, .v 18, .v 19] 2),
    (22, .i .u64, .fn 20 [.v 14, .v 15, .v 16, .v 17, .v 18, .v 19] 1),
    (21, .i .u64, .fn 20 [.v 14, .v 15, .v 16, .v 17, .v 18, .v 19] 0),
    (20, .bool, .fn 19 [.v 0, .v 1, .v 2, .v 3, .v 4, .v 5, .v 6, .v 7, .v 8, .v 9, .v 10, .v 11] 6),
    (19, .i .u64, .fn 19 [.v 0, .v 1, .v 2, .v 3, .v 4, .v 5, .v 6, .v 7, .v 8, .v 9, .v 10, .v 11] 5),
    (18, .i .u64, .fn 19 [.v 0, .v 1, .v 2, .v 3, .v 4, .v 5, .v 6, .v 7, .v 8, .v 9, .v 10, .v 11] 4),
    (17, .i .u64, .fn 19 [.v 0, .v 1, .v 2, .v 3, .v 4, .v 5, .v 6, .v 7, .v 8, .v 9, .v 10, .v 11] 3),
    (16, .i .u64, .fn 19 [.v 0, .v 1, .v 2, .v 3, .v 4, .v 5, .v 6, .v 7, .v 8, .v 9, .v 10, .v 11] 2),
    (15, .i .u64, .fn 19 [.v 0, .v 1, .v 2, .v 3, .v 4, .v 5, .v 6, .v 7, .v 8, .v 9, .v 10, .v 11] 1),
    (14, .i .u64, .fn 19 [.v 0, .v 1, .v 2, .v 3, .v 4, .v 5, .v 6, .v 7, .v 8, .v 9, .v 10, .v 11] 0),
    (13, .bool, .cmp .eql (.v 12) (.c 1)),
    (12, .i .u64, .bin .rem .u64 (.v 0) (.c 2))],
    [(.v 13, true)], [.v 21, .v 22, .v 23, .v 24, .v 25, .v 28, .v 6, .v 7, .v 8, .v 9, .v 10, .v 11, .c 1, .c 1]⟩)
  (.leaf ⟨[(19, .i .u64, .fn 20 [.v 0, .v 1, .v 2, .v 3, .v 4, .v 5] 5),
    (18, .i .u64, .fn 20 [.v 0, .v 1, .v 2, .v 3, .v 4, .v 5] 4),
    (17, .i .u64, .fn 20 [.v 0, .v 1, .v 2, .v 3, .v 4, .v 5] 3),
    (16, .i .u64, .fn 20 [.v 0, .v 1, .v 2, .v 3, .v 4, .v 5] 2),
    (15, .i .u64, .fn 20 [.v 0, .v 1, .v 2, .v 3, .v 4, .v 5] 1),
    (14, .i .u64, .fn 20 [.v 0, .v 1, .v 2, .v 3, .v 4, .v 5] 0),
    (13, .bool, .cmp .eql (.v 12) (.c 1)),
    (12, .i .u64, .bin .rem .u64 (.v 0) (.c 2))],
    [(.v 13, false)], [.v 14, .v 15, .v 16, .v 17, .v 18, .v 19, .v 6, .v 7, .v 8, .v 9, .v 10, .v 11, .c 1, .c 1]⟩)
def t_regular1 : CT := .node (.v 13)
  (.node (.v 15)
  (.leaf ⟨[(31, .i .i64, .bin .add .i64 (.v 12) (.c 1)),
    (30, .i .u64, .pick (.v 22) (.v 29) (.v 28)),
    (29, .i .u64, .bin .add .u64 (.v 28) (.c 9223372036854775808)),
    (28, .i .u64, .fn 20 [.v 16, .v 17, .v 18, .v 19, .v 20, .v 21] 5),
    (27, .i .u64, .fn 20 [.v 16, .v 17, .v 18, .v 19, .v 20, .v 21] 4),
    (26, .i .u64, .fn 20 [.v 16, .v 17, .v 18, .v 19, .v 20, .v 21] 3),
    (25, .i .u64, .fn 20 [.v 16, .v 17, .v 18, .v 19, .v 20, .v 21] 2),
    (24, .i .u64, .fn 20 [.v 16, .v 17, .v 18, .v 19, .v 20, .v 21] 1),
    (23, .i .u64, .fn 20 [.v 16, .v 17, .v 18, .v 19, .v 20, .v 21] 0),
    (22, .bool, .fn 19 [.v 0, .v 1, .v 2, .v 3, .v 4, .v 5, .v 6, .v 7, .v 8, .v 9, .v 10, .v 11] 6),
    (21, .i .u64, .fn 19 [.v 0, .v 1, .v 2, .v 3, .v 4, .v 5, .v 6, .v 7, .v 8, .v 9, .v 10, .v 11] 5),
    (20, .i .u64, .fn 19 [.v 0, .v 1, .v 2, .v 3, .v 4, .v 5, .v 6, .v 7, .v 8, .v 9, .v 10, .v 11] 4),
    (19, .i .u64, .fn 19 [.v 0, .v 1, .v 2, .v 3, .v 4, .v 5, .v 6, .v 7, .v 8, .v 9, .v 10, .v 11] 3),
    (18, .i .u64, .fn 19 [.v 0, .v 1, .v 2, .v 3, .v 4, .v 5, .v 6, .v 7, .v 8, .v 9, .v 10, .v 11] 2),
    (17, .i .u64, .fn 19 [.v 0, .v 1, .v 2, .v 3, .v 4, .v 5, .v 6, .v 7, .v 8, .v 9, .v 10, .v 11] 1),
    (16, .i .u64, .fn 19 [.v 0, .v 1, .v 2, .v 3, .v 4, .v 5, .v 6, .v 7, .v 8, .v 9, .v 10, .v 11] 0),
    (15, .bool, .cmp .eql (.v 14) (.c 1)),
    (14, .i .u64, .bin .rem .u64 (.v 0) (.c 2)),
    (13, .bool, .cmp .lss (.v 12) (.c 384))],
    [(.v 15, true), (.v 13, true)], [.v 23, .v 24, .v 25, .v 26, .v 27, .v 30, .v 6, .v 7, .v 8, .v 9, .v 10, .v 11, .v 31, .c 1]⟩)
  (.leaf ⟨[(22, .i .i64, .bin .add .i64 (.v 12) (.c 1)),
    (21, .i .u64, .fn 20 [.v 0, .v 1, .v 2, .v 3, .v 4, .v 5] 5),
    (20, .i .u64, .fn 20 [.v 0, .v 1, .v 2, .v 3, .v 4, .v 5] 4),
    (19, .i .u64, .fn 20 [.v 0, .v 1, .v 2, .v 3, .v 4, .v 5] 3),
    (18, .i .u64, .fn 20 [.v 0, .v 1, .v 2, .v 3, .v 4, .v 5] 2),
    (17, .i .u64, .fn 20 [.v 0, .v 1, .v 2, .v 3, .v 4, .v 5] 1),
    (16, .i .u64, .fn 20 [.v 0, .v 1, .v 2, .v 3, .v 4, .v 5] 0),
    (15, .bool, .cmp .eql (.v 14) (.c 1)),
    (14, .i .u64, .bin .rem .u64 (.v 0) (.c 2)),
    (13, .bool, .cmp .lss (.v 12) (.c 384))],
    [(.v 15, false), (.v 13, true)], [.v 16, .v 17, .v 18, .v 19, .v 20, .v 21, .v 6, .v 7, .v 8, .v 9, .v 10, .v 11, .v 22, .c 1]⟩))
  (.leaf ⟨[(13, .bool, .cmp .lss (.v 12) (.c 384))],
    [(.v 13, false)], [.v 0, .v 1, .v 2, .v 3, .v 4, .v 5, .v 6, .v 7, .v 8, .v 9, .v 10, .v 11, .v 12, .c 0]⟩)
def t_regular2 : CT := .leaf ⟨[],
    [], [.v 0, .v 1, .v 2, .v 3, .v 4, .v 5]⟩
theorem chk_regular : loopChk Try.prog [(19, su_plus), (20, su_half)] su_regular 400 1 Try.f11 form_regular t_regular0 t_regular1 t_regular2 = true := by kernel_rfl
theorem ok_regular : SummOK Try.prog 11 su_regular (Phi 11) := by
  refine summ_loop (Φ := Phi) (τ := form_regular) (preF := rgPre 6) (step := rgStep 6) (postF := fun vs => vs.take 6) t_regular0 t_regular1 t_regular2 Try.func11 (tbl_cons ok_plus (tbl_cons ok_half tbl_nil)) chk_regular ?_ ?_ ?_ ?_
  · intro l hl ρ hk hs ha
    have hn : su_regular.inKinds.length = 12 := rfl
    have hr : row ρ 12 = [ρ 0, ρ 1, ρ 2, ρ 3, ρ 4, ρ 5, ρ 6, ρ 7, ρ 8, ρ 9, ρ 10, ρ 11] := rfl
    rw [hn, hr] at hk ⊢
    simp only [su_regular, form_regular, Summ.inKinds, List.flatMap_cons, List.flatMap_nil, List.replicate, List.cons_append, List.nil_append, List.append_nil, holdsAll, K.holds] at hk
    obtain ⟨b0, b1, b2, b3, b4, b5, b6, b7, b8, b9, b10, b11, _⟩ := hk
    simp only [t_regular0, CT.leaves, List.cons_append, List.nil_append, List.mem_cons, List.not_mem_nil, or_false] at hl
    rcases hl with rfl | rfl
    · simp only [satTr_cons, satTr_nil, sv_lss, sv_leq, sv_gtr, sv_geq, sv_eql, sv_neq, sv_not, sv_beq, sv_pick, sv_add, sv_sub, sv_mul, sv_shr32, sv_shr1, sv_shl63, sv_fn, sv_eqs, E.den, List.map, K.holds] at hs
      simp only [asrOK_cons, asrOK_nil, if_true, if_false, Bool.false_eq_true, E.den] at ha
      obtain ⟨⟨h28, k28⟩, ⟨h27, k27⟩, ⟨h26, k26⟩, ⟨h25, k25⟩, ⟨h24, k24⟩, ⟨h23, k23⟩, ⟨h22, k22⟩, ⟨h21, k21⟩, ⟨h20, k20⟩, ⟨h19, k19⟩, ⟨h18, k18⟩, ⟨h17, k17⟩, ⟨h16, k16⟩, ⟨h15, k15⟩, ⟨h14, k14⟩, ⟨h13, k13⟩, ⟨h12, k12⟩, _⟩ := hs
      obtain ⟨a0, _⟩ := ha
      have g14 : [ρ 14, ρ 15, ρ 16, ρ 17, ρ 18, ρ 19] = wds 6 (val [ρ 0, ρ 1, ρ 2, ρ 3, ρ 4, ρ 5] + val [ρ 6, ρ 7, ρ 8, ρ 9, ρ 10, ρ 11]) := get6 rfl h14 h15 h16 h17 h18 h19
      have e20 : ρ 20 = b2i (decide (big 6 ≤ val [ρ 0, ρ 1, ρ 2, ρ 3, ρ 4, ρ 5] + val [ρ 6, ρ 7, ρ 8, ρ 9, ρ 10, ρ 11])) := h20
      rw [st_dec] at e20
      have g21 : [ρ 21, ρ 22, ρ 23, ρ 24, ρ 25, ρ 26] = wds 6 (val [ρ 14, ρ 15, ρ 16, ρ 17, ρ 18, ρ 19] / 2) := get6 rfl h21 h22 h23 h24 h25 h26
      have o1 : ρ 12 = ρ 0 % 2 := rem2 b0 h12
      have o2 : val [ρ 0, ρ 1, ρ 2, ρ 3, ρ 4, ρ 5] % 2 = 1 := by
        have := yes_of h13 a0
        simp only [val]
        omega
      have ho : regI 6 [ρ 6, ρ 7, ρ 8, ρ 9, ρ 10, ρ 11] [ρ 0, ρ 1, ρ 2, ρ 3, ρ 4, ρ 5] = [ρ 21, ρ 22, ρ 23, ρ 24, ρ 25, ρ 28] := by
        rw [regI, if_pos o2]
        exact regI_odd (s := [ρ 14, ρ 15, ρ 16, ρ 17, ρ 18, ρ 19]) (hh := [ρ 21, ρ 22, ρ 23, ρ 24, ρ 25]) (v := ρ 26) (c := ρ 20) (t := ρ 27) (o := ρ 28) (u64s_cons b0 (u64s_cons b1 (u64s_cons b2 (u64s_cons b3 (u64s_cons b4 (u64s_cons b5 u64s_nil)))))) rfl (u64s_cons b6 (u64s_cons b7 (u64s_cons b8 (u64s_cons b9 (u64s_cons b10 (u64s_cons b11 u64s_nil)))))) rfl (by decide) g14 e20 g21 h27 h28
      change regI 6 [ρ 6, ρ 7, ρ 8, ρ 9, ρ 10, ρ 11] [ρ 0, ρ 1, ρ 2, ρ 3, ρ 4, ρ 5] ++ [ρ 6, ρ 7, ρ 8, ρ 9, ρ 10, ρ 11] ++ [1] ++ [1] = _
      rw [ho]
      rfl
    · simp only [satTr_cons, satTr_nil, sv_lss, sv_leq, sv_gtr, sv_geq, sv_eql, sv_neq, sv_not, sv_beq, sv_pick, sv_add, sv_sub, sv_mul, sv_shr32, sv_shr1, sv_shl63, sv_fn, sv_eqs, E.den, List.map, K.holds] at hs
      simp only [asrOK_cons, asrOK_nil, if_true, if_false, Bool.false_eq_true, E.den] at ha
      obtain ⟨⟨h19, k19⟩, ⟨h18, k18⟩, ⟨h17, k17⟩, ⟨h16, k16⟩, ⟨h15, k15⟩, ⟨h14, k14⟩, ⟨h13, k13⟩, ⟨h12, k12⟩, _⟩ := hs
      obtain ⟨a0, _⟩ := ha
      have g14 : [ρ 14, ρ 15, ρ 16, ρ 17, ρ 18, ρ 19] = wds 6 (val [ρ 0, ρ 1, ρ 2, ρ 3, ρ 4, ρ 5] / 2) := get6 rfl h14 h15 h16 h17 h18 h19
      have o1 : ρ 12 = ρ 0 % 2 := rem2 b0 h12
      have o2 : ¬ val [ρ 0, ρ 1, ρ 2, ρ 3, ρ 4, ρ 5] % 2 = 1 := by
        have := no_of h13 a0
        simp only [val]
        omega
      have ho : regI 6 [ρ 6, ρ 7, ρ 8, ρ 9, ρ 10, ρ 11] [ρ 0, ρ 1, ρ 2, ρ 3, ρ 4, ρ 5] = [ρ 14, ρ 15, ρ 16, ρ 17, ρ 18, ρ 19] := by rw [regI, if_neg o2, g14]
      change regI 6 [ρ 6, ρ 7, ρ 8, ρ 9, ρ 10, ρ 11] [ρ 0, ρ 1, ρ 2, ρ 3, ρ 4, ρ 5] ++ [ρ 6, ρ 7, ρ 8, ρ 9, ρ 10, ρ 11] ++ [1] ++ [1] = _
      rw [ho]
      rfl
  · intro l hl ρ hk hs ha
    have hn : form_regular.kin.length = 13 := rfl
    have hr : row ρ 13 = [ρ 0, ρ 1, ρ 2, ρ 3, ρ 4, ρ 5, ρ 6, ρ 7, ρ 8, ρ 9, ρ 10, ρ 11, ρ 12] := rfl
    rw [hn, hr] at hk ⊢
    simp only [su_regular, form_regular, Summ.inKinds, List.flatMap_cons, List.flatMap_nil, List.replicate, List.cons_append, List.nil_append, List.append_nil, holdsAll, K.holds] at hk
    obtain ⟨b0, b1, b2, b3, b4, b5, b6, b7, b8, b9, b10, b11, b12, _⟩ := hk
    simp only [t_regular1, CT.leaves, List.cons_append, List.nil_append, List.mem_cons, List.not_mem_nil, or_false] at hl
    rcases hl with rfl | rfl | rfl
    · simp only [satTr_cons, satTr_nil, sv_lss, sv_leq, sv_gtr, sv_geq, sv_eql, sv_neq, sv_not, sv_beq, sv_pick, sv_add, sv_sub, sv_mul, sv_shr32, sv_shr1, sv_shl63, sv_fn, sv_eqs, E.den, List.map, K.holds] at hs
      simp only [asrOK_cons, asrOK_nil, if_true, if_false, Bool.false_eq_true, E.den] at ha
      obtain ⟨⟨h31, k31⟩, ⟨h30, k30⟩, ⟨h29, k29⟩, ⟨h28, k28⟩, ⟨h27, k27⟩, ⟨h26, k26⟩, ⟨h25, k25⟩, ⟨h24, k24⟩, ⟨h23, k23⟩, ⟨h22, k22⟩, ⟨h21, k21⟩, ⟨h20, k20⟩, ⟨h19, k19⟩, ⟨h18, k18⟩, ⟨h17, k17⟩, ⟨h16, k16⟩, ⟨h15, k15⟩, ⟨h14, k14⟩, ⟨h13, k13⟩, _⟩ := hs
      obtain ⟨a0, a1, _⟩ := ha
      have g16 : [ρ 16, ρ 17, ρ 18, ρ 19, ρ 20, ρ 21] = wds 6 (val [ρ 0, ρ 1, ρ 2, ρ 3, ρ 4, ρ 5] + val [ρ 6, ρ 7, ρ 8, ρ 9, ρ 10, ρ 11]) := get6 rfl h16 h17 h18 h19 h20 h21
      have e22 : ρ 22 = b2i (decide (big 6 ≤ val [ρ 0, ρ 1, ρ 2, ρ 3, ρ 4, ρ 5] + val [ρ 6, ρ 7, ρ 8, ρ 9, ρ 10, ρ 11])) := h22
      rw [st_dec] at e22
      have g23 : [ρ 23, ρ 24, ρ 25, ρ 26, ρ 27, ρ 28] = wds 6 (val [ρ 16, ρ 17, ρ 18, ρ 19, ρ 20, ρ 21] / 2) := get6 rfl h23 h24 h25 h26 h27 h28
      have o1 : ρ 14 = ρ 0 % 2 := rem2 b0 h14
      have o2 : val [ρ 0, ρ 1, ρ 2, ρ 3, ρ 4, ρ 5] % 2 = 1 := by
        have := yes_of h15 a0
        simp only [val]
        omega
      have ho : regI 6 [ρ 6, ρ 7, ρ 8, ρ 9, ρ 10, ρ 11] [ρ 0, ρ 1, ρ 2, ρ 3, ρ 4, ρ 5] = [ρ 23, ρ 24, ρ 25, ρ 26, ρ 27, ρ 30] := by
        rw [regI, if_pos o2]
        exact regI_odd (s := [ρ 16, ρ 17, ρ 18, ρ 19, ρ 20, ρ 21]) (hh := [ρ 23, ρ 24, ρ 25, ρ 26, ρ 27]) (v := ρ 28) (c := ρ 22) (t := ρ 29) (o := ρ 30) (u64s_cons b0 (u64s_cons b1 (u64s_cons b2 (u64s_cons b3 (u64s_cons b4 (u64s_cons b5 u64s_nil)))))) rfl (u64s_cons b6 (u64s_cons b7 (u64s_cons b8 (u64s_cons b9 (u64s_cons b10 (u64s_cons b11 u64s_nil)))))) rfl (by decide) g16 e22 g23 h29 h30
      have hlt := yes_of h13 a1
      have hi : I.val Phi ρ (.bin .add .i64 (.v 12) (.c 1)) = ρ 12 + 1 := i64_inc (x := ρ 12) b12.1 (by omega)
      rw [hi] at h31
      change (if ρ 12 < 64 * 6 then regI 6 [ρ 6, ρ 7, ρ 8, ρ 9, ρ 10, ρ 11] [ρ 0, ρ 1, ρ 2, ρ 3, ρ 4, ρ 5] ++ [ρ 6, ρ 7, ρ 8, ρ 9, ρ 10, ρ 11] ++ [ρ 12 + 1, 1] else _) = _
      rw [if_pos (by omega), ho, ← h31]
      rfl
    · simp only [satTr_cons, satTr_nil, sv_lss, sv_leq, sv_gtr, sv_geq, sv_eql, sv_neq, sv_not, sv_beq, sv_pick, sv_add, sv_sub, sv_mul, sv_shr32, sv_shr1, sv_shl63, sv_fn, sv_eqs, E.den, List.map, K.holds] at hs
      simp only [asrOK_cons, asrOK_nil, if_true, if_false, Bool.false_eq_true, E.den] at ha
      obtain ⟨⟨h22, k22⟩, ⟨h21, k21⟩, ⟨h20, k20⟩, ⟨h19, k19⟩, ⟨h18, k18⟩, ⟨h17, k17⟩, ⟨h16, k16⟩, ⟨h15, k15⟩, ⟨h14, k14⟩, ⟨h13, k13⟩, _⟩ := hs
      obtain ⟨a0, a1, _⟩ := ha
      have g16 : [ρ 16, ρ 17, ρ 18, ρ 19, ρ 20, ρ 21] = wds 6 (val [ρ 0, ρ 1, ρ 2, ρ 3, ρ 4, ρ 5] / 2) := get6 rfl h16 h17 h18 h19 h20 h21
      have o1 : ρ 14 = ρ 0 % 2 := rem2 b0 h14
      have o2 : ¬ val [ρ 0, ρ 1, ρ 2, ρ 3, ρ 4, ρ 5] % 2 = 1 := by
        have := no_of h15 a0
        simp only [val]
        omega
      have ho : regI 6 [ρ 6, ρ 7, ρ 8, ρ 9, ρ 10, ρ 11] [ρ 0, ρ 1, ρ 2, ρ 3, ρ 4, ρ 5] = [ρ 16, ρ 17, ρ 18, ρ 19, ρ 20, ρ 21] := by rw [regI, if_neg o2, g16]
      have hlt := yes_of h13 a1
      have hi : I.val Phi ρ (.bin .add .i64 (.v 12) (.c 1)) = ρ 12 + 1 := i64_inc (x := ρ 12) b12.1 (by omega)
      rw [hi] at h22
      change (if ρ 12 < 64 * 6 then regI 6 [ρ 6, ρ 7, ρ 8, ρ 9, ρ 10, ρ 11] [ρ 0, ρ 1, ρ 2, ρ 3, ρ 4, ρ 5] ++ [ρ 6, ρ 7, ρ 8, ρ 9, ρ 10, ρ 11] ++ [ρ 12 + 1, 1] else _) = _
      rw [if_pos (by omega), ho, ← h22]
      rfl
    · simp only [satTr_cons, satTr_nil, sv_lss, sv_leq, sv_gtr, sv_geq, sv_eql, sv_neq, sv_not, sv_beq, sv_pick, sv_add, sv_sub, sv_mul, sv_shr32, sv_shr1, sv_shl63, sv_fn, sv_eqs, E.den, List.map, K.holds] at hs
      simp only [asrOK_cons, asrOK_nil, if_true, if_false, Bool.false_eq_true, E.den] at ha
      obtain ⟨⟨h13, k13⟩, _⟩ := hs
      obtain ⟨a0, _⟩ := ha
      change (if ρ 12 < 64 * 6 then _ else [ρ 0, ρ 1, ρ 2, ρ 3, ρ 4, ρ 5, ρ 6, ρ 7, ρ 8, ρ 9, ρ 10, ρ 11, ρ 12] ++ [0]) = _
      rw [if_neg (by omega)]
      rfl
  · intro l hl ρ hk hs ha
    have hn : form_regular.kin.length = 13 := rfl
    have hr : row ρ 13 = [ρ 0, ρ 1, ρ 2, ρ 3, ρ 4, ρ 5, ρ 6, ρ 7, ρ 8, ρ 9, ρ 10, ρ 11, ρ 12] := rfl
    rw [hn, hr] at hk ⊢
    simp only [su_regular, form_regular, Summ.inKinds, List.flatMap_cons, List.flatMap_nil, List.replicate, List.cons_append, List.nil_append, List.append_nil, holdsAll, K.holds] at hk
    obtain ⟨b0, b1, b2, b3, b4, b5, b6, b7, b8, b9, b10, b11, b12, _⟩ := hk
    simp only [t_regular2, CT.leaves, List.cons_append, List.nil_append, List.mem_cons, List.not_mem_nil, or_false] at hl
    subst hl
    simp only [satTr_cons, satTr_nil, sv_lss, sv_leq, sv_gtr, sv_geq, sv_eql, sv_neq, sv_not, sv_beq, sv_pick, sv_add, sv_sub, sv_mul, sv_shr32, sv_shr1, sv_shl63, sv_fn, sv_eqs, E.den, List.map, K.holds] at hs
    simp only [asrOK_cons, asrOK_nil, if_true, if_false, Bool.false_eq_true, E.den] at ha
    clear hs
    clear ha
    rfl
  · intro ins hins
    exact reg_loop (n := 6) (by decide) ins (by have := holdsAll_length hins; exact this)

/-! ### one -/
def su_one : Summ := ⟨[.ptr 6], (some 0), [.arg 0]⟩
def t_one0 : CT := .leaf ⟨[],
    [], [.c 8505329371266088957, .c 17002214543764226050, .c 6865905132761471162, .c 8632934651105793861, .c 6631298214892334189, .c 1582556514881692819]⟩
theorem chk_one : checkFn Try.prog [] su_one 400 Try.f29 (fun _ => t_one0) = true := by kernel_rfl
theorem ok_one : SummOK Try.prog 29 su_one (Phi 29) := by
  refine summ_fn (Φ := Phi) 400 (fun _ => t_one0) Try.func29 tbl_nil chk_one ?_
  intro al hal l hl ρ hk hs ha
  have hn : su_one.inKinds.length = 6 := rfl
  have hr : row ρ 6 = [ρ 0, ρ 1, ρ 2, ρ 3, ρ 4, ρ 5] := rfl
  rw [hn, hr] at hk ⊢
  simp only [su_one, Summ.inKinds, List.flatMap_cons, List.flatMap_nil, List.replicate, List.cons_append, List.nil_append, List.append_nil, holdsAll, K.holds] at hk
  obtain ⟨b0, b1, b2, b3, b4, b5, _⟩ := hk
  simp only [t_one0, CT.leaves, List.cons_append, List.nil_append, List.mem_cons, List.not_mem_nil, or_false] at hl
  subst hl
  simp only [satTr_cons, satTr_nil, sv_lss, sv_leq, sv_gtr, sv_geq, sv_eql, sv_neq, sv_not, sv_beq, sv_pick, sv_add, sv_sub, sv_mul, sv_shr32, sv_shr1, sv_shl63, sv_fn, sv_eqs, E.den, List.map, K.holds] at hs
  simp only [asrOK_cons, asrOK_nil, if_true, if_false, Bool.false_eq_true, E.den] at ha
  clear hs
  clear ha
  change wds 6 r = [8505329371266088957, 17002214543764226050, 6865905132761471162, 8632934651105793861, 6631298214892334189, 1582556514881692819]
  kernel_rfl

/-! ### One -/
def su_One : Summ := ⟨[], none, [.agg 6]⟩
def t_One0 : CT := .leaf ⟨[(5, .i .u64, .fn 29 [.c 0, .c 0, .c 0, .c 0, .c 0, .c 0] 5),
    (4, .i .u64, .fn 29 [.c 0, .c 0, .c 0, .c 0, .c 0, .c 0] 4),
    (3, .i .u64, .fn 29 [.c 0, .c 0, .c 0, .c 0, .c 0, .c 0] 3),
    (2, .i .u64, .fn 29 [.c 0, .c 0, .c 0, .c 0, .c 0, .c 0] 2),
    (1, .i .u64, .fn 29 [.c 0, .c 0, .c 0, .c 0, .c 0, .c 0] 1),
    (0, .i .u64, .fn 29 [.c 0, .c 0, .c 0, .c 0, .c 0, .c 0] 0)],
    [], [.v 0, .v 1, .v 2, .v 3, .v 4, .v 5]⟩
theorem chk_One : checkFn Try.prog [(29, su_one)] su_One 400 Try.f23 (fun _ => t_One0) = true := by kernel_rfl
theorem ok_One : SummOK Try.prog 23 su_One (Phi 23) := by
  refine summ_fn (Φ := Phi) 400 (fun _ => t_One0) Try.func23 (tbl_cons ok_one tbl_nil) chk_One ?_
  intro al hal l hl ρ hk hs ha
  have hn : su_One.inKinds.length = 0 := rfl
  have hr : row ρ 0 = [] := rfl
  rw [hn, hr] at hk ⊢
  simp only [su_One, Summ.inKinds, List.flatMap_cons, List.flatMap_nil, List.replicate, List.cons_append, List.nil_append, List.append_nil, holdsAll, K.holds] at hk
  simp only [t_One0, CT.leaves, List.cons_append, List.nil_append, List.mem_cons, List.not_mem_nil, or_false] at hl
  subst hl
  simp only [satTr_cons, satTr_nil, sv_lss, sv_leq, sv_gtr, sv_geq, sv_eql, sv_neq, sv_not, sv_beq, sv_pick, sv_add, sv_sub, sv_mul, sv_shr32, sv_shr1, sv_shl63, sv_fn, sv_eqs, E.den, List.map, K.holds] at hs
  simp only [asrOK_cons, asrOK_nil, if_true, if_false, Bool.false_eq_true, E.den] at ha
  obtain ⟨⟨h5, k5⟩, ⟨h4, k4⟩, ⟨h3, k3⟩, ⟨h2, k2⟩, ⟨h1, k1⟩, ⟨h0, k0⟩, _⟩ := hs
  clear ha
  have g0 : [ρ 0, ρ 1, ρ 2, ρ 3, ρ 4, ρ 5] = wds 6 r := get6 rfl h0 h1 h2 h3 h4 h5
  exact g0.symm

/-! ### iOne -/
def su_iOne : Summ := ⟨[], none, [.agg 6]⟩
def t_iOne0 : CT := .leaf ⟨[(5, .i .u64, .fn 23 [] 5),
    (4, .i .u64, .fn 23 [] 4),
    (3, .i .u64, .fn 23 [] 3),
    (2, .i .u64, .fn 23 [] 2),
    (1, .i .u64, .fn 23 [] 1),
    (0, .i .u64, .fn 23 [] 0)],
    [], [.v 0, .v 1, .v 2, .v 3, .v 4, .v 5]⟩
theorem chk_iOne : checkFn Try.prog [(23, su_One)] su_iOne 400 Try.f15 (fun _ => t_iOne0) = true := by kernel_rfl
theorem ok_iOne : SummOK Try.prog 15 su_iOne (Phi 15) := by
  refine summ_fn (Φ := Phi) 400 (fun _ => t_iOne0) Try.func15 (tbl_cons ok_One tbl_nil) chk_iOne ?_
  intro al hal l hl ρ hk hs ha
  have hn : su_iOne.inKinds.length = 0 := rfl
  have hr : row ρ 0 = [] := rfl
  rw [hn, hr] at hk ⊢
  simp only [su_iOne, Summ.inKinds, List.flatMap_cons, List.flatMap_nil, List.replicate, List.cons_append, List.nil_append, List.append_nil, holdsAll, K.holds] at hk
  simp only [t_iOne0, CT.leaves, List.cons_append, List.nil_append, List.mem_cons, List.not_mem_nil, or_false] at hl
  subst hl
  simp only [satTr_cons, satTr_nil, sv_lss, sv_leq, sv_gtr, sv_geq, sv_eql, sv_neq, sv_not, sv_beq, sv_pick, sv_add, sv_sub, sv_mul, sv_shr32, sv_shr1, sv_shl63, sv_fn, sv_eqs, E.den, List.map, K.holds] at hs
  simp only [asrOK_cons, asrOK_nil, if_true, if_false, Bool.false_eq_true, E.den] at ha
  obtain ⟨⟨h5, k5⟩, ⟨h4, k4⟩, ⟨h3, k3⟩, ⟨h2, k2⟩, ⟨h1, k1⟩, ⟨h0, k0⟩, _⟩ := hs
  clear ha
  have g0 : [ρ 0, ρ 1, ρ 2, ρ 3, ρ 4, ρ 5] = wds 6 r := get6 rfl h0 h1 h2 h3 h4 h5
  exact g0.symm

/-! ### lCmp -/
def su_lCmp : Summ := ⟨[.agg 6, .agg 6], none, [.sc .bool]⟩
def t_lCmp0 : CT := .node (.v 19)
  (.leaf ⟨[(19, .bool, .not (.v 18)),
    (18, .bool, .fn 6 [.v 0, .v 1, .v 2, .v 3, .v 4, .v 5, .v 12, .v 13, .v 14, .v 15, .v 16, .v 17] 0),
    (17, .i .u64, .fn 7 [] 5),
    (16, .i .u64, .fn 7 [] 4),
    (15, .i .u64, .fn 7 [] 3),
    (14, .i .u64, .fn 7 [] 2),
    (13, .i .u64, .fn 7 [] 1),
    (12, .i .u64, .fn 7 [] 0)],
    [(.v 19, true)], [.c 1]⟩)
  (.node (.v 27)
  (.leaf ⟨[(27, .bool, .not (.v 26)),
    (26, .bool, .fn 6 [.v 6, .v 7, .v 8, .v 9, .v 10, .v 11, .v 20, .v 21, .v 22, .v 23, .v 24, .v 25] 0),
    (25, .i .u64, .fn 7 [] 5),
    (24, .i .u64, .fn 7 [] 4),
    (23, .i .u64, .fn 7 [] 3),
    (22, .i .u64, .fn 7 [] 2),
    (21, .i .u64, .fn 7 [] 1),
    (20, .i .u64, .fn 7 [] 0),
    (19, .bool, .not (.v 18)),
    (18, .bool, .fn 6 [.v 0, .v 1, .v 2, .v 3, .v 4, .v 5, .v 12, .v 13, .v 14, .v 15, .v 16, .v 17] 0),
    (17, .i .u64, .fn 7 [] 5),
    (16, .i .u64, .fn 7 [] 4),
    (15, .i .u64, .fn 7 [] 3),
    (14, .i .u64, .fn 7 [] 2),
    (13, .i .u64, .fn 7 [] 1),
    (12, .i .u64, .fn 7 [] 0)],
    [(.v 27, true), (.v 19, false)], [.c 1]⟩)
  (.node (.v 53)
  (.node (.v 54)
  (.leaf ⟨[(62, .bool, .cmp .eql (.v 61) (.c 1)),
    (61, .i .i64, .fn 16 [.v 55, .v 56, .v 57, .v 58, .v 59, .v 60, .c 0, .c 0, .c 0, .c 0, .c 0, .c 0] 0),
    (60, .i .u64, .fn 15 [] 5),
    (59, .i .u64, .fn 15 [] 4),
    (58, .i .u64, .fn 15 [] 3),
    (57, .i .u64, .fn 15 [] 2),
    (56, .i .u64, .fn 15 [] 1),
    (55, .i .u64, .fn 15 [] 0),
    (54, .bool, .cmp .eql (.v 52) (.c 0)),
    (53, .bool, .fn 9 [.v 34, .v 35, .v 36, .v 37, .v 38, .v 39, .v 46, .v 47, .v 48, .v 49, .v 50, .v 51] 0),
    (52, .i .i64, .fn 16 [.v 0, .v 1, .v 2, .v 3, .v 4, .v 5, .v 6, .v 7, .v 8, .v 9, .v 10, .v 11] 0),
    (51, .i .u64, .fn 11 [.v 6, .v 7, .v 8, .v 9, .v 10, .v 11, .v 40, .v 41, .v 42, .v 43, .v 44, .v 45] 5),
    (50, .i .u64, .fn 11 [.v 6, .v 7, .v 8, .v 9, .v 10, .v 11, .v 40, .v 41, .v 42, .v 43, .v 44, .v 45] 4),
    (49, .i .u64, .fn 11 [.v 6, .v 7, .v 8, .v 9, .v 10, .v 11, .v 40, .v 41, .v 42, .v 43, .v 44, .v 45] 3),
    (48, .i .u64, .fn 11 [.v 6, .v 7, .v 8, .v 9, .v 10, .v 11, .v 40, .v 41, .v 42, .v 43, .v 44, .v 45] 2),
    (47, .i .u64, .fn 11 [.v 6, .v 7, .v 8, .v 9, .v 10, .v 11, .v 40, .v 41, .v 42, .v 43, .v 44, .v 45] 1),
    (46, .i .u64, .fn 11 [.v 6, .v 7, .v 8, .v 9, .v 10, .v 11, .v 40, .v 41, .v 42, .v 43, .v 44, .v 45] 0),
    (45, .i .u64, .fn 7 [] 5),
    (44, .i .u64, .fn 7 [] 4),
    (43, .i .u64, .fn 7 [] 3),
    (42, .i .u64, .fn 7 [] 2),
    (41, .i .u64, .fn 7 [] 1),
    (40, .i .u64, .fn 7 [] 0),
    (39, .i .u64, .fn 11 [.v 0, .v 1, .v 2, .v 3, .v 4, .v 5, .v 28, .v 29, .v 30, .v 31, .v 32, .v 33] 5),
    (38, .i .u64, .fn 11 [.v 0, .v 1, .v 2, .v 3, .v 4, .v 5, .v 28, .v 29, .v 30, .v 31, .v 32, .v 33] 4),
    (37, .i .u64, .fn 11 [.v 0, .v 1, .v 2, .v 3, .v 4, .v 5, .v 28, .v 29, .v 30, .v 31, .v 32, .v 33] 3),
    (36, .i .u64, .fn 11 [.v 0, .v 1, .v 2, .v 3, .v 4, .v 5, .v 28, .v 29, .v 30, .v 31, .v 32, .v 33] 2),
    (35, .i .u64, .fn 11 [.v 0, .v 1, .v 2, .v 3, .v 4, .v 5, .v 28, .v 29, .v 30, .v 31, .v 32, .v 33] 1),
    (34, .i .u64, .fn 11 [.v 0, .v 1, .v 2, .v 3, .v 4, .v 5, .v 28, .v 29, .v 30, .v 31, .v 32, .v 33] 0),
    (33, .i .u64, .fn 7 [] 5),
    (32, .i .u64, .fn 7 [] 4),
    (31, .i .u64, .fn 7 [] 3),
    (30, .i .u64, .fn 7 [] 2),
    (29, .i .u64, .fn 7 [] 1),
    (28, .i .u64, .fn 7 [] 0),
    (27, .bool, .not (.v 26)),
    (26, .bool, .fn 6 [.v 6, .v 7, .v 8, .v 9, .v 10, .v 11, .v 20, .v 21, .v 22, .v 23, .v 24, .v 25] 0),
    (25, .i .u64, .fn 7 [] 5),
    (24, .i .u64, .fn 7 [] 4),
    (23, .i .u64, .fn 7 [] 3),
    (22, .i .u64, .fn 7 [] 2),
    (21, .i .u64, .fn 7 [] 1),
    (20, .i .u64, .fn 7 [] 0),
    (19, .bool, .not (.v 18)),
    (18, .bool, .fn 6 [.v 0, .v 1, .v 2, .v 3, .v 4, .v 5, .v 12, .v 13, .v 14, .v 15, .v 16, .v 17] 0),
    (17, .i .u64, .fn 7 [] 5),
    (16, .i .u64, .fn 7 [] 4),
    (15, .i .u64, .fn 7 [] 3),
    (14, .i .u64, .fn 7 [] 2),
    (13, .i .u64, .fn 7 [] 1),
    (12, .i .u64, .fn 7 [] 0)],
    [(.v 54, true), (.v 53, true), (.v 27, false), (.v 19, false)], [.v 62]⟩)
  (.leaf ⟨[(54, .bool, .cmp .eql (.v 52) (.c 0)),
    (53, .bool, .fn 9 [.v 34, .v 35, .v 36, .v 37, .v 38, .v 39, .v 46, .v 47, .v 48, .v 49, .v 50, .v 51] 0),
    (52, .i .i64, .fn 16 [.v 0, .v 1, .v 2, .v 3, .v 4, .v 5, .v 6, .v 7, .v 8, .v 9, .v 10, .v 11] 0),
    (51, .i .u64, .fn 11 [.v 6, .v 7, .v 8, .v 9, .v 10, .v 11, .v 40, .v 41, .v 42, .v 43, .v 44, .v 45] 5),
    (50, .i .u64, .fn 11 [.v 6, .v 7, .v 8, .v 9, .v 10, .v 11, .v 40, .v 41, .v 42, .v 43, .v 44, .v 45] 4),
    (49, .i .u64, .fn 11 [.v 6, .v 7, .v 8, .v 9, .v 10, .v 11, .v 40, .v 41, .v 42, .v 43, .v 44, .v 45] 3),
    (48, .i .u64, .fn 11 [.v 6, .v 7, .v 8, .v 9, .v 10, .v 11, .v 40, .v 41, .v 42, .v 43, .v 44, .v 45] 2),
    (47, .i .u64, .fn 11 [.v 6, .v 7, .v 8, .v 9, .v 10, .v 11, .v 40, .v 41, .v 42, .v 43, .v 44, .v 45] 1),
    (46, .i .u64, .fn 11 [.v 6, .v 7, .v 8, .v 9, .v 10, .v 11, .v 40, .v 41, .v 42, .v 43, .v 44, .v 45] 0),
    (45, .i .u64, .fn 7 [] 5),
    (44, .i .u64, .fn 7 [] 4),
    (43, .i .u64, .fn 7 [] 3),
    (42, .i .u64, .fn 7 [] 2),
    (41, .i .u64, .fn 7 [] 1),
    (40, .i .u64, .fn 7 [] 0),
    (39, .i .u64, .fn 11 [.v 0, .v 1, .v 2, .v 3, .v 4, .v 5, .v 28, .v 29, .v 30, .v 31, .v 32, .v 33] 5),
    (38, .i .u64, .fn 11 [.v 0, .v 1, .v 2, .v 3, .v 4, .v 5, .v 28, .v 29, .v 30, .v 31, .v 32, .v 33] 4),
    (37, .i .u64, .fn 11 [.v 0, .v 1, .v 2, .v 3, .v 4, .v 5, .v 28, .v 29, .v 30, .v 31, .v 32, .v 33] 3),
    (36, .i .u64, .fn 11 [.v 0, .v 1, .v 2, .v 3, .v 4, .v 5, .v 28, .v 29, .v 30, .v 31, .v 32, .v 33] 2),
    (35, .i .u64, .fn 11 [.v 0, .v 1, .v 2, .v 3, .v 4, .v 5, .v 28, .v 29, .v 30, .v 31, .v 32, .v 33] 1),
    (34, .i .u64, .fn 11 [.v 0, .v 1, .v 2, .v 3, .v 4, .v 5, .v 28, .v 29, .v 30, .v 31, .v 32, .v 33] 0),
    (33, .i .u64, .fn 7 [] 5),
    (32, .i .u64, .fn 7 [] 4),
    (31, .i .u64, .fn 7 [] 3),
    (30, .i .u64, .fn 7 [] 2),
    (29, .i .u64, .fn 7 [] 1),
    (28, .i .u64, .fn 7 [] 0),
    (27, .bool, .not (.v 26)),
    (26, .bool, .fn 6 [.v 6, .v 7, .v 8, .v 9, .v 10, .v 11, .v 20, .v 21, .v 22, .v 23, .v 24, .v 25] 0),
    (25, .i .u64, .fn 7 [] 5),
    (24, .i .u64, .fn 7 [] 4),
    (23, .i .u64, .fn 7 [] 3),
    (22, .i .u64, .fn 7 [] 2),
    (21, .i .u64, .fn 7 [] 1),
    (20, .i .u64, .fn 7 [] 0),
    (19, .bool, .not (.v 18)),
    (18, .bool, .fn 6 [.v 0, .v 1, .v 2, .v 3, .v 4, .v 5, .v 12, .v 13, .v 14, .v 15, .v 16, .v 17] 0),
    (17, .i .u64, .fn 7 [] 5),
    (16, .i .u64, .fn 7 [] 4),
    (15, .i .u64, .fn 7 [] 3),
    (14, .i .u64, .fn 7 [] 2),
    (13, .i .u64, .fn 7 [] 1),
    (12, .i .u64, .fn 7 [] 0)],
    [(.v 54, false), (.v 53, true), (.v 27, false), (.v 19, false)], [.c 0]⟩))
  (.node (.v 54)
  (.node (.v 55)
  (.leaf ⟨[(55, .bool, .fn 6 [.v 46, .v 47, .v 48, .v 49, .v 50, .v 51, .v 34, .v 35, .v 36, .v 37, .v 38, .v 39] 0),
    (54, .bool, .cmp .eql (.v 52) (.c 1)),
    (53, .bool, .fn 9 [.v 34, .v 35, .v 36, .v 37, .v 38, .v 39, .v 46, .v 47, .v 48, .v 49, .v 50, .v 51] 0),
    (52, .i .i64, .fn 16 [.v 0, .v 1, .v 2, .v 3, .v 4, .v 5, .v 6, .v 7, .v 8, .v 9, .v 10, .v 11] 0),
    (51, .i .u64, .fn 11 [.v 6, .v 7, .v 8, .v 9, .v 10, .v 11, .v 40, .v 41, .v 42, .v 43, .v 44, .v 45] 5),
    (50, .i .u64, .fn 11 [.v 6, .v 7, .v 8, .v 9, .v 10, .v 11, .v 40, .v 41, .v 42, .v 43, .v 44, .v 45] 4),
    (49, .i .u64, .fn 11 [.v 6, .v 7, .v 8, .v 9, .v 10, .v 11, .v 40, .v 41, .v 42, .v 43, .v 44, .v 45] 3),
    (48, .i .u64, .fn 11 [.v 6, .v 7, .v 8, .v 9, .v 10, .v 11, .v 40, .v 41, .v 42, .v 43, .v 44, .v 45] 2),
    (47, .i .u64, .fn 11 [.v 6, .v 7, .v 8, .v 9, .v 10, .v 11, .v 40, .v 41, .v 42, .v 43, .v 44, .v 45] 1),
    (46, .i .u64, .fn 11 [.v 6, .v 7, .v 8, .v 9, .v 10, .v 11, .v 40, .v 41, .v 42, .v 43, .v 44, .v 45] 0),
    (45, .i .u64, .fn 7 [] 5),
    (44, .i .u64, .fn 7 [] 4),
    (43, .i .u64, .fn 7 [] 3),
    (42, .i .u64, .fn 7 [] 2),
    (41, .i .u64, .fn 7 [] 1),
    (40, .i .u64, .fn 7 [] 0),
    (39, .i .u64, .fn 11 [.v 0, .v 1, .v 2, .v 3, .v 4, .v 5, .v 28, .v 29, .v 30, .v 31, .v 32, .v 33] 5),
    (38, .i .u64, .fn 11 [.v 0, .v 1, .v 2, .v 3, .v 4, .v 5, .v 28, .v 29, .v 30, .v 31, .v 32, .v 33] 4),
    (37, .i .u64, .fn 11 [.v 0, .v 1, .v 2, .v 3, .v 4, .v 5, .v 28, .v 29, .v 30, .v 31, .v 32, .v 33] 3),
    (36, .i .u64, .fn 11 [.v 0, .v 1, .v 2, .v 3, .v 4, .v 5, .v 28, .v 29, .v 30, .v 31, .v 32, .v 33] 2),
    (35, .i .u64, .fn 11 [.v 0, .v 1, .v 2, .v 3, .v 4, .v 5, .v 28, .v 29, .v 30, .v 31, .v 32, .v 33] 1),
    (34, .i .u64, .fn 11 [.v 0, .v 1, .v 2, .v 3, .v 4, .v 5, .v 28, .v 29, .v 30, .v 31, .v 32, .v 33] 0),
    (33, .i .u64, .fn 7 [] 5),
    (32, .i .u64, .fn 7 [] 4),
    (31, .i .u64, .fn 7 [] 3),
    (30, .i .u64, .fn 7 [] 2),
    (29, .i .u64, .fn 7 [] 1),
    (28, .i .u64, .fn 7 [] 0),
    (27, .bool, .not (.v 26)),
    (26, .bool, .fn 6 [.v 6, .v 7, .v 8, .v 9, .v 10, .v 11, .v 20, .v 21, .v 22, .v 23, .v 24, .v 25] 0),
    (25, .i .u64, .fn 7 [] 5),
    (24, .i .u64, .fn 7 [] 4),
    (23, .i .u64, .fn 7 [] 3),
    (22, .i .u64, .fn 7 [] 2),
    (21, .i .u64, .fn 7 [] 1),
    (20, .i .u64, .fn 7 [] 0),
    (19, .bool, .not (.v 18)),
    (18, .bool, .fn 6 [.v 0, .v 1, .v 2, .v 3, .v 4, .v 5, .v 12, .v 13, .v 14, .v 15, .v 16, .v 17] 0),
    (17, .i .u64, .fn 7 [] 5),
    (16, .i .u64, .fn 7 [] 4),
    (15, .i .u64, .fn 7 [] 3),
    (14, .i .u64, .fn 7 [] 2),
    (13, .i .u64, .fn 7 [] 1),
    (12, .i .u64, .fn 7 [] 0)],
    [(.v 55, true), (.v 54, true), (.v 53, false), (.v 27, false), (.v 19, false)], [.c 1]⟩)
  (.node (.v 56)
  (.leaf ⟨[(57, .bool, .fn 6 [.v 34, .v 35, .v 36, .v 37, .v 38, .v 39, .v 46, .v 47, .v 48, .v 49, .v 50, .v 51] 0),
    (56, .bool, .cmp .eql (.v 52) (.c (-1))),
    (55, .bool, .fn 6 [.v 46, .v 47, .v 48, .v 49, .v 50, .v 51, .v 34, .v 35, .v 36, .v 37, .v 38, .v 39] 0),
    (54, .bool, .cmp .eql (.v 52) (.c 1)),
    (53, .bool, .fn 9 [.v 34, .v 35, .v 36, .v 37, .v 38, .v 39, .v 46, .v 47, .v 48, .v 49, .v 50, .v 51] 0),
    (52, .i .i64, .fn 16 [.v 0, .v 1, .v 2, .v 3, .v 4, .v 5, .v 6, .v 7, .v 8, .v 9, .v 10, .v 11] 0),
    (51, .i .u64, .fn 11 [.v 6, .v 7, .v 8, .v 9, .v 10, .v 11, .v 40, .v 41, .v 42, .v 43, .v 44, .v 45] 5),
    (50, .i .u64, .fn 11 [.v 6, .v 7, .v 8, .v 9, .v 10, .v 11, .v 40, .v 41, .v 42, .v 43, .v 44, .v 45] 4),
    (49, .i .u64, .fn 11 [.v 6, .v 7, .v 8, .v 9, .v 10, .v 11, .v 40, .v 41, .v 42, .v 43, .v 44, .v 45] 3),
    (48, .i .u64, .fn 11 [.v 6, .v 7, .v 8, .v 9, .v 10, .v 11, .v 40, .v 41, .v 42, .v 43, .v 44, .v 45] 2),
    (47, .i .u64, .fn 11 [.v 6, .v 7, .v 8, .v 9, .v 10, .v 11, .v 40, .v 41, .v 42, .v 43, .v 44, .v 45] 1),
    (46, .i .u64, .fn 11 [.v 6, .v 7, .v 8, .v 9, .v 10, .v 11, .v 40, .v 41, .v 42, .v 43, .v 44, .v 45] 0),
    (45, .i .u64, .fn 7 [] 5),
    (44, .i .u64, .fn 7 [] 4),
    (43, .i .u64, .fn 7 [] 3),
    (42, .i .u64, .fn 7 [] 2),
    (41, .i .u64, .fn 7 [] 1),
    (40, .i .u64, .fn 7 [] 0),
    (39, .i .u64, .fn 11 [.v 0, .v 1, .v 2, .v 3, .v 4, .v 5, .v 28, .v 29, .v 30, .v 31, .v 32, .v 33] 5),
    (38, .i .u64, .fn 11 [.v 0, .v 1, .v 2, .v 3, .v 4, .v 5, .v 28, .v 29, .v 30, .v 31, .v 32, .v 33] 4),
    (37, .i .u64, .fn 11 [.v 0, .v 1, .v 2, .v 3, .v 4, .v 5, .v 28, .v 29, .v 30, .v 31, .v 32, .v 33] 3),
    (36, .i .u64, .fn 11 [.v 0, .v 1, .v 2, .v 3, .v 4, .v 5, .v 28, .v 29, .v 30, .v 31, .v 32, .v 33] 2),
    (35, .i .u64, .fn 11 [.v 0, .v 1, .v 2, .v 3, .v 4, .v 5, .v 28, .v 29, .v 30, .v 31, .v 32, .v 33] 1),
    (34, .i .u64, .fn 11 [.v 0, .v 1, .v 2, .v 3, .v 4, .v 5, .v 28, .v 29, .v 30, .v 31, .v 32, .v 33] 0),
    (33, .i .u64, .fn 7 [] 5),
    (32, .i .u64, .fn 7 [] 4),
    (31, .i .u64, .fn 7 [] 3),
    (30, .i .u64, .fn 7 [] 2),
    (29, .i .u64, .fn 7 [] 1),
    (28, .i .u64, .fn 7 [] 0),
    (27, .bool, .not (.v 26)),
    (26, .bool, .fn 6 [.v 6, .v 7, .v 8, .v 9, .v 10, .v 11, .v 20, .v 21, .v 22, .v 23, .v 24, .v 25] 0),
    (25, .i .u64, .fn 7 [] 5),
    (24, .i .u64, .fn 7 [] 4),
    (23, .i .u64, .fn 7 [] 3),
    (22, .i .u64, .fn 7 [] 2),
    (21, .i .u64, .fn 7 [] 1),
    (20, .i .u64, .fn 7 [] 0),
    (19, .bool, .not (.v 18)),
    (18, .bool, .fn 6 [.v 0, .v 1, .v 2, .v 3, .v 4, .v 5, .v 12, .v 13, .v 14, .v 15, .v 16, .v 17] 0),
    (17, .i .u64, .fn 7 [] 5),
    (16, .i .u64, .fn 7 [] 4),
    (15, .i .u64, .fn 7 [] 3),
    (14, .i .u64, .fn 7 [] 2),
    (13, .i .u64, .fn 7 [] 1),
    (12, .i .u64, .fn 7 [] 0)],
    [(.v 56, true), (.v 55, false), (.v 54, true), (.v 53, false), (.v 27, false), (.v 19, false)], [.v 57]⟩)
  (.leaf ⟨[(56, .bool, .cmp .eql (.v 52) (.c (-1))),
    (55, .bool, .fn 6 [.v 46, .v 47, .v 48, .v 49, .v 50, .v 51, .v 34, .v 35, .v 36, .v 37, .v 38, .v 39] 0),
    (54, .bool, .cmp .eql (.v 52) (.c 1)),
    (53, .bool, .fn 9 [.v 34, .v 35, .v 36, .v 37, .v 38, .v 39, .v 46, .v 47, .v 48, .v 49, .v 50, .v 51] 0),
    (52, .i .i64, .fn 16 [.v 0, .v 1, .v 2, .v 3, .v 4, .v 5, .v 6, .v 7, .v 8, .v 9, .v 10, .v 11] 0),
    (51, .i .u64, .fn 11 [.v 6, .v 7, .v 8, .v 9, .v 10, .v 11, .v 40, .v 41, .v 42, .v 43, .v 44, .v 45] 5),
    (50, .i .u64, .fn 11 [.v 6, .v 7, .v 8, .v 9, .v 10, .v 11, .v 40, .v 41, .v 42, .v 43, .v 44, .v 45] 4),
    (49, .i .u64, .fn 11 [.v 6, .v 7, .v 8, .v 9, .v 10, .v 11, .v 40, .v 41, .v 42, .v 43, .v 44, .v 45] 3),
    (48, .i .u64, .fn 11 [.v 6, .v 7, .v 8, .v 9, .v 10, .v 11, .v 40, .v 41, .v 42, .v 43, .v 44, .v 45] 2),
    (47, .i .u64, .fn 11 [.v 6, .v 7, .v 8, .v 9, .v 10, .v 11, .v 40, .v 41, .v 42, .v 43, .v 44, .v 45] 1),
    (46, .i .u64, .fn 11 [.v 6, .v 7, .v 8, .v 9, .v 10, .v 11, .v 40, .v 41, .v 42, .v 43, .v 44, .v 45] 0),
    (45, .i .u64, .fn 7 [] 5),
    (44, .i .u64, .fn 7 [] 4),
    (43, .i .u64, .fn 7 [] 3),
    (42, .i .u64, .fn 7 [] 2),
    (41, .i .u64, .fn 7 [] 1),
    (40, .i .u64, .fn 7 [] 0),
    (39, .i .u64, .fn 11 [.v 0, .v 1, .v 2, .v 3, .v 4, .v 5, .v 28, .v 29, .v 30, .v 31, .v 32, .v 33] 5),
    (38, .i .u64, .fn 11 [.v 0, .v 1, .v 2, .v 3, .v 4, .v 5, .v 28, .v 29, .v 30, .v 31, .v 32, .v 33] 4),
    (37, .i .u64, .fn 11 [.v 0, .v 1, .v 2, .v 3, .v 4, .v 5, .v 28, .v 29, .v 30, .v 31, .v 32, .v 33] 3),
    (36, .i .u64, .fn 11 [.v 0, .v 1, .v 2, .v 3, .v 4, .v 5, .v 28, .v 29, .v 30, .v 31, .v 32, .v 33] 2),
    (35, .i .u64, .fn 11 [.v 0, .v 1, .v 2, .v 3, .v 4, .v 5, .v 28, .v 29, .v 30, .v 31, .v 32, .v 33] 1),
    (34, .i .u64, .fn 11 [.v 0, .v 1, .v 2, .v 3, .v 4, .v 5, .v 28, .v 29, .v 30, .v 31, .v 32, .v 33] 0),
    (33, .i .u64, .fn 7 [] 5),
    (32, .i .u64, .fn 7 [] 4),
    (31, .i .u64, .fn 7 [] 3),
    (30, .i .u64, .fn 7 [] 2),
    (29, .i .u64, .fn 7 [] 1),
    (28, .i .u64, .fn 7 [] 0),
    (27, .bool, .not (.v 26)),
    (26, .bool, .fn 6 [.v 6, .v 7, .v 8, .v 9, .v 10, .v 11, .v 20, .v 21, .v 22, .v 23, .v 24, .v 25] 0),
    (25, .i .u64, .fn 7 [] 5),
    (24, .i .u64, .fn 7 [] 4),
    (23, .i .u64, .fn 7 [] 3),
    (22, .i .u64, .fn 7 [] 2),
    (21, .i .u64, .fn 7 [] 1),
    (20, .i .u64, .fn 7 [] 0),
    (19, .bool, .not (.v 18)),
    (18, .bool, .fn 6 [.v 0, .v 1, .v 2, .v 3, .v 4, .v 5, .v 12, .v 13, .v 14, .v 15, .v 16, .v 17] 0),
    (17, .i .u64, .fn 7 [] 5),
    (16, .i .u64, .fn 7 [] 4),
    (15, .i .u64, .fn 7 [] 3),
    (14, .i .u64, .fn 7 [] 2),
    (13, .i .u64, .fn 7 [] 1),
    (12, .i .u64, .fn 7 [] 0)],
    [(.v 56, false), (.v 55, false), (.v 54, true), (.v 53, false), (.v 27, false), (.v 19, false)], [.c 0]⟩)))
  (.node (.v 55)
  (.leaf ⟨[(56, .bool, .fn 6 [.v 34, .v 35, .v 36, .v 37, .v 38, .v 39, .v 46, .v 47, .v 48, .v 49, .v 50, .v 51] 0),
    (55, .bool, .cmp .eql (.v 52) (.c (-1))),
    (54, .bool, .cmp .eql (.v 52) (.c 1)),
    (53, .bool, .fn 9 [.v 34, .v 35, .v 36, .v 37, .v 38, .v 39, .v 46, .v 47, .v 48, .v 49, .v 50, .v 51] 0),
    (52, .i .i64, .fn 16 [.v 0, .v 1, .v 2, .v 3, .v 4, .v 5, .v 6, .v 7, .v 8, .v 9, .v 10, .v 11] 0),
    (51, .i .u64, .fn 11 [.v 6, .v 7, .v 8, .v 9, .v 10, .v 11, .v 40, .v 41, .v 42, .v 43, .v 44, .v 45] 5),
    (50, .i .u64, .fn 11 [.v 6, .v 7, .v 8, .v 9, .v 10, .v 11, .v 40, .v 41, .v 42, .v 43, .v 44, .v 45] 4),
    (49, .i .u64, .fn 11 [.v 6, .v 7, .v 8, .v 9, .v 10, .v 11, .v 40, .v 41, .v 42, .v 43, .v 44, .v 45] 3),
    (48, .i .u64, .fn 11 [.v 6, .v 7, .v 8, .v 9, .v 10, .v 11, .v 40, .v 41, .v 42, .v 43, .v 44, .v 45] 2),
    (47, .i .u64, .fn 11 [.v 6, .v 7, .v 8, .v 9, .v 10, .v 11, .v 40, .v 41, .v 42, .v 43, .v 44, .v 45] 1),
    (46, .i .u64, .fn 11 [.v 6, .v 7, .v 8, .v 9, .v 10, .v 11, .v 40, .v 41, .v 42, .v 43, .v 44, .v 45] 0),
    (45, .i .u64, .fn 7 [] 5),
    (44, .i .u64, .fn 7 [] 4),
    (43, .i .u64, .fn 7 [] 3),
    (42, .i .u64, .fn 7 [] 2),
    (41, .i .u64, .fn 7 [] 1),
    (40, .i .u64, .fn 7 [] 0),
    (39, .i .u64, .fn 11 [.v 0, .v 1, .v 2, .v 3, .v 4, .v 5, .v 28, .v 29, .v 30, .v 31, .v 32, .v 33] 5),
    (38, .i .u64, .fn 11 [.v 0, .v 1, .v 2, .v 3, .v 4, .v 5, .v 28, .v 29, .v 30, .v 31, .v 32, .v 33] 4),
    (37, .i .u64, .fn 11 [.v 0, .v 1, .v 2, .v 3, .v 4, .v 5, .v 28, .v 29, .v 30, .v 31, .v 32, .v 33] 3),
    (36, .i .u64, .fn 11 [.v 0, .v 1, .v 2, .v 3, .v 4, .v 5, .v 28, .v 29, .v 30, .v 31, .v 32, .v 33] 2),
    (35, .i .u64, .fn 11 [.v 0, .v 1, .v 2, .v 3, .v 4, .v 5, .v 28, .v 29, .v 30, .v 31, .v 32, .v 33] 1),
    (34, .i .u64, .fn 11 [.v 0, .v 1, .v 2, .v 3, .v 4, .v 5, .v 28, .v 29, .v 30, .v 31, .v 32, .v 33] 0),
    (33, .i .u64, .fn 7 [] 5),
    (32, .i .u64, .fn 7 [] 4),
    (31, .i .u64, .fn 7 [] 3),
    (30, .i .u64, .fn 7 [] 2),
    (29, .i .u64, .fn 7 [] 1),
    (28, .i .u64, .fn 7 [] 0),
    (27, .bool, .not (.v 26)),
    (26, .bool, .fn 6 [.v 6, .v 7, .v 8, .v 9, .v 10, .v 11, .v 20, .v 21, .v 22, .v 23, .v 24, .v 25] 0),
    (25, .i .u64, .fn 7 [] 5),
    (24, .i .u64, .fn 7 [] 4),
    (23, .i .u64, .fn 7 [] 3),
    (22, .i .u64, .fn 7 [] 2),
    (21, .i .u64, .fn 7 [] 1),
    (20, .i .u64, .fn 7 [] 0),
    (19, .bool, .not (.v 18)),
    (18, .bool, .fn 6 [.v 0, .v 1, .v 2, .v 3, .v 4, .v 5, .v 12, .v 13, .v 14, .v 15, .v 16, .v 17] 0),
    (17, .i .u64, .fn 7 [] 5),
    (16, .i .u64, .fn 7 [] 4),
    (15, .i .u64, .fn 7 [] 3),
    (14, .i .u64, .fn 7 [] 2),
    (13, .i .u64, .fn 7 [] 1),
    (12, .i .u64, .fn 7 [] 0)],
    [(.v 55, true), (.v 54, false), (.v 53, false), (.v 27, false), (.v 19, false)], [.v 56]⟩)
  (.leaf ⟨[(55, .bool, .cmp .eql (.v 52) (.c (-1))),
    (54, .bool, .cmp .eql (.v 52) (.c 1)),
    (53, .bool, .fn 9 [.v 34, .v 35, .v 36, .v 37, .v 38, .v 39, .v 46, .v 47, .v 48, .v 49, .v 50, .v 51] 0),
    (52, .i .i64, .fn 16 [.v 0, .v 1, .v 2, .v 3, .v 4, .v 5, .v 6, .v 7, .v 8, .v 9, .v 10, .v 11] 0),
    (51, .i .u64, .fn 11 [.v 6, .v 7, .v 8, .v 9, .v 10, .v 11, .v 40, .v 41, .v 42, .v 43, .v 44, .v 45] 5),
    (50, .i .u64, .fn 11 [.v 6, .v 7, .v 8, .v 9, .v 10, .v 11, .v 40, .v 41, .v 42, .v 43, .v 44, .v 45] 4),
    (49, .i .u64, .fn 11 [.v 6, .v 7, .v 8, .v 9, .v 10, .v 11, .v 40, .v 41, .v 42, .v 43, .v 44, .v 45] 3),
    (48, .i .u64, .fn 11 [.v 6, .v 7, .v 8, .v 9, .v 10, .v 11, .v 40, .v 41, .v 42, .v 43, .v 44, .v 45] 2),
    (47, .i .u64, .fn 11 [.v 6, .v 7, .v 8, .v 9, .v 10, .v 11, .v 40, .v 41, .v 42, .v 43, .v 44, .v 45] 1),
    (46, .i .u64, .fn 11 [.v 6, .v 7, .v 8, .v 9, .v 10, .v 11, .v 40, .v 41, .v 42, .v 43, .v 44, .v 45] 0),
    (45, .i .u64, .fn 7 [] 5),
    (44, .i .u64, .fn 7 [] 4),
    (43, .i .u64, .fn 7 [] 3),
    (42, .i .u64, .fn 7 [] 2),
    (41, .i .u64, .fn 7 [] 1),
    (40, .i .u64, .fn 7 [] 0),
    (39, .i .u64, .fn 11 [.v 0, .v 1, .v 2, .v 3, .v 4, .v 5, .v 28, .v 29, .v 30, .v 31, .v 32, .v 33] 5),
    (38, .i .u64, .fn 11 [.v 0, .v 1, .v 2, .v 3, .v 4, .v 5, .v 28, .v 29, .v 30, .v 31, .v 32, .v 33] 4),
    (37, .i .u64, .fn 11 [.v 0, .v 1, .v 2, .v 3, .v 4, .v 5, .v 28, .v 29, .v 30, .v 31, .v 32, .v 33] 3),
    (36, .i .u64, .fn 11 [.v 0, .v 1, .v 2, .v 3, .v 4, .v 5, .v 28, .v 29, .v 30, .v 31, .v 32, .v 33] 2),
    (35, .i .u64, .fn 11 [.v 0, .v 1, .v 2, .v 3, .v 4, .v 5, .v 28, .v 29, .v 30, .v 31, .v 32, .v 33] 1),
    (34, .i .u64, .fn 11 [.v 0, .v 1, .v 2, .v 3, .v 4, .v 5, .v 28, .v 29, .v 30, .v 31, .v 32, .v 33] 0),
    (33, .i .u64, .fn 7 [] 5),
    (32, .i .u64, .fn 7 [] 4),
    (31, .i .u64, .fn 7 [] 3),
    (30, .i .u64, .fn 7 [] 2),
    (29, .i .u64, .fn 7 [] 1),
    (28, .i .u64, .fn 7 [] 0),
    (27, .bool, .not (.v 26)),
    (26, .bool, .fn 6 [.v 6, .v 7, .v 8, .v 9, .v 10, .v 11, .v 20, .v 21, .v 22, .v 23, .v 24, .v 25] 0),
    (25, .i .u64, .fn 7 [] 5),
    (24, .i .u64, .fn 7 [] 4),
    (23, .i .u64, .fn 7 [] 3),
    (22, .i .u64, .fn 7 [] 2),
    (21, .i .u64, .fn 7 [] 1),
    (20, .i .u64, .fn 7 [] 0),
    (19, .bool, .not (.v 18)),
    (18, .bool, .fn 6 [.v 0, .v 1, .v 2, .v 3, .v 4, .v 5, .v 12, .v 13, .v 14, .v 15, .v 16, .v 17] 0),
    (17, .i .u64, .fn 7 [] 5),
    (16, .i .u64, .fn 7 [] 4),
    (15, .i .u64, .fn 7 [] 3),
    (14, .i .u64, .fn 7 [] 2),
    (13, .i .u64, .fn 7 [] 1),
    (12, .i .u64, .fn 7 [] 0)],
    [(.v 55, false), (.v 54, false), (.v 53, false), (.v 27, false), (.v 19, false)], [.c 0]⟩)))))
theorem chk_lCmp : checkFn Try.prog [(6, su_less), (7, su_prime), (11, su_regular), (16, su_iCmp), (9, su_same), (15, su_iOne)] su_lCmp 400 Try.f5 (fun _ => t_lCmp0) = true := by kernel_rfl
theorem ok_lCmp : SummOK Try.prog 5 su_lCmp (Phi 5) := by
  refine summ_fn (Φ := Phi) 400 (fun _ => t_lCmp0) Try.func5 (tbl_cons ok_less (tbl_cons ok_prime (tbl_cons ok_regular (tbl_cons ok_iCmp (tbl_cons ok_same (tbl_cons ok_iOne tbl_nil)))))) chk_lCmp ?_
  intro al hal l hl ρ hk hs ha
  have hn : su_lCmp.inKinds.length = 12 := rfl
  have hr : row ρ 12 = [ρ 0, ρ 1, ρ 2, ρ 3, ρ 4, ρ 5, ρ 6, ρ 7, ρ 8, ρ 9, ρ 10, ρ 11] := rfl
  rw [hn, hr] at hk ⊢
  simp only [su_lCmp, Summ.inKinds, List.flatMap_cons, List.flatMap_nil, List.replicate, List.cons_append, List.nil_append, List.append_nil, holdsAll, K.holds] at hk
  obtain ⟨b0, b1, b2, b3, b4, b5, b6, b7, b8, b9, b10, b11, _⟩ := hk
  simp only [t_lCmp0, CT.leaves, List.cons_append, List.nil_append, List.mem_cons, List.not_mem_nil, or_false] at hl
  rcases hl with rfl | rfl | rfl | rfl | rfl | rfl | rfl | rfl | rfl
  · simp only [satTr_cons, satTr_nil, sv_lss, sv_leq, sv_gtr, sv_geq, sv_eql, sv_neq, sv_not, sv_beq, sv_pick, sv_add, sv_sub, sv_mul, sv_shr32, sv_shr1, sv_shl63, sv_fn, sv_eqs, E.den, List.map, K.holds] at hs
    simp only [asrOK_cons, asrOK_nil, if_true, if_false, Bool.false_eq_true, E.den] at ha
    obtain ⟨⟨h19, k19⟩, ⟨h18, k18⟩, ⟨h17, k17⟩, ⟨h16, k16⟩, ⟨h15, k15⟩, ⟨h14, k14⟩, ⟨h13, k13⟩, ⟨h12, k12⟩, _⟩ := hs
    obtain ⟨a0, _⟩ := ha
    have g12 : [ρ 12, ρ 13, ρ 14, ρ 15, ρ 16, ρ 17] = wds 6 q := get6 rfl h12 h13 h14 h15 h16 h17
    have e18 : ρ 18 = b2i (decide (val [ρ 0, ρ 1, ρ 2, ρ 3, ρ 4, ρ 5] < val [ρ 12, ρ 13, ρ 14, ρ 15, ρ 16, ρ 17])) := h18
    rw [st_dec] at e18
    rfl
  · simp only [satTr_cons, satTr_nil, sv_lss, sv_leq, sv_gtr, sv_geq, sv_eql, sv_neq, sv_not, sv_beq, sv_pick, sv_add, sv_sub, sv_mul, sv_shr32, sv_shr1, sv_shl63, sv_fn, sv_eqs, E.den, List.map, K.holds] at hs
    simp only [asrOK_cons, asrOK_nil, if_true, if_false, Bool.false_eq_true, E.den] at ha
    obtain ⟨⟨h27, k27⟩, ⟨h26, k26⟩, ⟨h25, k25⟩, ⟨h24, k24⟩, ⟨h23, k23⟩, ⟨h22, k22⟩, ⟨h21, k21⟩, ⟨h20, k20⟩, ⟨h19, k19⟩, ⟨h18, k18⟩, ⟨h17, k17⟩, ⟨h16, k16⟩, ⟨h15, k15⟩, ⟨h14, k14⟩, ⟨h13, k13⟩, ⟨h12, k12⟩, _⟩ := hs
    obtain ⟨a0, a1, _⟩ := ha
    have g12 : [ρ 12, ρ 13, ρ 14, ρ 15, ρ 16, ρ 17] = wds 6 q := get6 rfl h12 h13 h14 h15 h16 h17
    have e18 : ρ 18 = b2i (decide (val [ρ 0, ρ 1, ρ 2, ρ 3, ρ 4, ρ 5] < val [ρ 12, ρ 13, ρ 14, ρ 15, ρ 16, ρ 17])) := h18
    rw [st_dec] at e18
    have g20 : [ρ 20, ρ 21, ρ 22, ρ 23, ρ 24, ρ 25] = wds 6 q := get6 rfl h20 h21 h22 h23 h24 h25
    have e26 : ρ 26 = b2i (decide (val [ρ 6, ρ 7, ρ 8, ρ 9, ρ 10, ρ 11] < val [ρ 20, ρ 21, ρ 22, ρ 23, ρ 24, ρ 25])) := h26
    rw [st_dec] at e26
    rfl
  · simp only [satTr_cons, satTr_nil, sv_lss, sv_leq, sv_gtr, sv_geq, sv_eql, sv_neq, sv_not, sv_beq, sv_pick, sv_add, sv_sub, sv_mul, sv_shr32, sv_shr1, sv_shl63, sv_fn, sv_eqs, E.den, List.map, K.holds] at hs
    simp only [asrOK_cons, asrOK_nil, if_true, if_false, Bool.false_eq_true, E.den] at ha
    obtain ⟨⟨h62, k62⟩, ⟨h61, k61⟩, ⟨h60, k60⟩, ⟨h59, k59⟩, ⟨h58, k58⟩, ⟨h57, k57⟩, ⟨h56, k56⟩, ⟨h55, k55⟩, ⟨h54, k54⟩, ⟨h53, k53⟩, ⟨h52, k52⟩, ⟨h51, k51⟩, ⟨h50, k50⟩, ⟨h49, k49⟩, ⟨h48, k48⟩, ⟨h47, k47⟩, ⟨h46, k46⟩, ⟨h45, k45⟩, ⟨h44, k44⟩, ⟨h43, k43⟩, ⟨h42, k42⟩, ⟨h41, k41⟩, ⟨h40, k40⟩, ⟨h39, k39⟩, ⟨h38, k38⟩, ⟨h37, k37⟩, ⟨h36, k36⟩, ⟨h35, k35⟩, ⟨h34, k34⟩, ⟨h33, k33⟩, ⟨h32, k32⟩, ⟨h31, k31⟩, ⟨h30, k30⟩, ⟨h29, k29⟩, ⟨h28, k28⟩, ⟨h27, k27⟩, ⟨h26, k26⟩, ⟨h25, k25⟩, ⟨h24, k24⟩, ⟨h23, k23⟩, ⟨h22, k22⟩, ⟨h21, k21⟩, ⟨h20, k20⟩, ⟨h19, k19⟩, ⟨h18, k18⟩, ⟨h17, k17⟩, ⟨h16, k16⟩, ⟨h15, k15⟩, ⟨h14, k14⟩, ⟨h13, k13⟩, ⟨h12, k12⟩, _⟩ := hs
    obtain ⟨a0, a1, a2, a3, _⟩ := ha
    have g12 : [ρ 12, ρ 13, ρ 14, ρ 15, ρ 16, ρ 17] = wds 6 q := get6 rfl h12 h13 h14 h15 h16 h17
    have e18 : ρ 18 = b2i (decide (val [ρ 0, ρ 1, ρ 2, ρ 3, ρ 4, ρ 5] < val [ρ 12, ρ 13, ρ 14, ρ 15, ρ 16, ρ 17])) := h18
    rw [st_dec] at e18
    have g20 : [ρ 20, ρ 21, ρ 22, ρ 23, ρ 24, ρ 25] = wds 6 q := get6 rfl h20 h21 h22 h23 h24 h25
    have e26 : ρ 26 = b2i (decide (val [ρ 6, ρ 7, ρ 8, ρ 9, ρ 10, ρ 11] < val [ρ 20, ρ 21, ρ 22, ρ 23, ρ 24, ρ 25])) := h26
    rw [st_dec] at e26
    have g28 : [ρ 28, ρ 29, ρ 30, ρ 31, ρ 32, ρ 33] = wds 6 q := get6 rfl h28 h29 h30 h31 h32 h33
    have g34 : [ρ 34, ρ 35, ρ 36, ρ 37, ρ 38, ρ 39] = regF 6 [ρ 0, ρ 1, ρ 2, ρ 3, ρ 4, ρ 5, ρ 28, ρ 29, ρ 30, ρ 31, ρ 32, ρ 33] := get6 (regF_length 6 _ rfl) h34 h35 h36 h37 h38 h39
    have g40 : [ρ 40, ρ 41, ρ 42, ρ 43, ρ 44, ρ 45] = wds 6 q := get6 rfl h40 h41 h42 h43 h44 h45
    have g46 : [ρ 46, ρ 47, ρ 48, ρ 49, ρ 50, ρ 51] = regF 6 [ρ 6, ρ 7, ρ 8, ρ 9, ρ 10, ρ 11, ρ 40, ρ 41, ρ 42, ρ 43, ρ 44, ρ 45] := get6 (regF_length 6 _ rfl) h46 h47 h48 h49 h50 h51
    have g52 : ρ 52 = ordI (redM q ri (val [ρ 0, ρ 1, ρ 2, ρ 3, ρ 4, ρ 5])) (redM q ri (val [ρ 6, ρ 7, ρ 8, ρ 9, ρ 10, ρ 11])) := h52
    have e53 : ρ 53 = b2i (decide ([ρ 34, ρ 35, ρ 36, ρ 37, ρ 38, ρ 39] = [ρ 46, ρ 47, ρ 48, ρ 49, ρ 50, ρ 51])) := h53
    rw [st_dec] at e53
    have g55 : [ρ 55, ρ 56, ρ 57, ρ 58, ρ 59, ρ 60] = wds 6 r := get6 rfl h55 h56 h57 h58 h59 h60
    have g61 : ρ 61 = ordI (redM q ri (val [ρ 55, ρ 56, ρ 57, ρ 58, ρ 59, ρ 60])) (redM q ri (val [0, 0, 0, 0, 0, 0])) := h61
    have hp : val (wds 6 q) = q := by kernel_rfl
    rw [g12, hp] at e18
    have hAX : val [ρ 0, ρ 1, ρ 2, ρ 3, ρ 4, ρ 5] < q := by omega
    rw [g20, hp] at e26
    have hAY : val [ρ 6, ρ 7, ρ 8, ρ 9, ρ 10, ρ 11] < q := by omega
    have hrX : [ρ 34, ρ 35, ρ 36, ρ 37, ρ 38, ρ 39] = wds 6 (redM q ri (val [ρ 0, ρ 1, ρ 2, ρ 3, ρ 4, ρ 5])) := by
      have e3 : [ρ 0, ρ 1, ρ 2, ρ 3, ρ 4, ρ 5] ++ [ρ 28, ρ 29, ρ 30, ρ 31, ρ 32, ρ 33] = [ρ 0, ρ 1, ρ 2, ρ 3, ρ 4, ρ 5] ++ wds 6 q := by rw [← g28]
      have e4 := g34
      change _ = regF 6 ([ρ 0, ρ 1, ρ 2, ρ 3, ρ 4, ρ 5] ++ [ρ 28, ρ 29, ρ 30, ρ 31, ρ 32, ρ 33]) at e4
      rw [e4, e3]
      exact law_regular (u64s_cons b0 (u64s_cons b1 (u64s_cons b2 (u64s_cons b3 (u64s_cons b4 (u64s_cons b5 u64s_nil)))))) rfl hAX hp (by decide) (by decide) ri_eq
    have hRX := red_lt (q := q) (ri := ri) (X := val [ρ 0, ρ 1, ρ 2, ρ 3, ρ 4, ρ 5]) q_pos
    have hvX : val [ρ 34, ρ 35, ρ 36, ρ 37, ρ 38, ρ 39] = redM q ri (val [ρ 0, ρ 1, ρ 2, ρ 3, ρ 4, ρ 5]) := by rw [hrX]; exact val_wds_of hRX.1 (Int.lt_trans hRX.2 q_lt)
    have hrY : [ρ 46, ρ 47, ρ 48, ρ 49, ρ 50, ρ 51] = wds 6 (redM q ri (val [ρ 6, ρ 7, ρ 8, ρ 9, ρ 10, ρ 11])) := by
      have e3 : [ρ 6, ρ 7, ρ 8, ρ 9, ρ 10, ρ 11] ++ [ρ 40, ρ 41, ρ 42, ρ 43, ρ 44, ρ 45] = [ρ 6, ρ 7, ρ 8, ρ 9, ρ 10, ρ 11] ++ wds 6 q := by rw [← g40]
      have e4 := g46
      change _ = regF 6 ([ρ 6, ρ 7, ρ 8, ρ 9, ρ 10, ρ 11] ++ [ρ 40, ρ 41, ρ 42, ρ 43, ρ 44, ρ 45]) at e4
      rw [e4, e3]
      exact law_regular (u64s_cons b6 (u64s_cons b7 (u64s_cons b8 (u64s_cons b9 (u64s_cons b10 (u64s_cons b11 u64s_nil)))))) rfl hAY hp (by decide) (by decide) ri_eq
    have hRY := red_lt (q := q) (ri := ri) (X := val [ρ 6, ρ 7, ρ 8, ρ 9, ρ 10, ρ 11]) q_pos
    have hvY : val [ρ 46, ρ 47, ρ 48, ρ 49, ρ 50, ρ 51] = redM q ri (val [ρ 6, ρ 7, ρ 8, ρ 9, ρ 10, ρ 11]) := by rw [hrY]; exact val_wds_of hRY.1 (Int.lt_trans hRY.2 q_lt)
    have hsame : [ρ 34, ρ 35, ρ 36, ρ 37, ρ 38, ρ 39] = [ρ 46, ρ 47, ρ 48, ρ 49, ρ 50, ρ 51] ↔ redM q ri (val [ρ 0, ρ 1, ρ 2, ρ 3, ρ 4, ρ 5]) = redM q ri (val [ρ 6, ρ 7, ρ 8, ρ 9, ρ 10, ρ 11]) := by
      constructor
      · intro h; rw [← hvX, ← hvY, h]
      · intro h; rw [hrX, hrY, h]
    rw [hsame] at e53
    generalize redM q ri (val [ρ 0, ρ 1, ρ 2, ρ 3, ρ 4, ρ 5]) = X at *
    generalize redM q ri (val [ρ 6, ρ 7, ρ 8, ρ 9, ρ 10, ρ 11]) = Y at *
    have hXY : X = Y := (by omega : X = Y)
    have h1 : ordI (redM q ri (val (wds 6 r))) (redM q ri (val [0, 0, 0, 0, 0, 0])) = 1 := by kernel_rfl
    rw [g55, h1] at g61
    have hf : ρ 62 = 1 := by omega
    change [1] = [ρ 62]
    rw [hf]
  · simp only [satTr_cons, satTr_nil, sv_lss, sv_leq, sv_gtr, sv_geq, sv_eql, sv_neq, sv_not, sv_beq, sv_pick, sv_add, sv_sub, sv_mul, sv_shr32, sv_shr1, sv_shl63, sv_fn, sv_eqs, E.den, List.map, K.holds] at hs
    simp only [asrOK_cons, asrOK_nil, if_true, if_false, Bool.false_eq_true, E.den] at ha
    obtain ⟨⟨h54, k54⟩, ⟨h53, k53⟩, ⟨h52, k52⟩, ⟨h51, k51⟩, ⟨h50, k50⟩, ⟨h49, k49⟩, ⟨h48, k48⟩, ⟨h47, k47⟩, ⟨h46, k46⟩, ⟨h45, k45⟩, ⟨h44, k44⟩, ⟨h43, k43⟩, ⟨h42, k42⟩, ⟨h41, k41⟩, ⟨h40, k40⟩, ⟨h39, k39⟩, ⟨h38, k38⟩, ⟨h37, k37⟩, ⟨h36, k36⟩, ⟨h35, k35⟩, ⟨h34, k34⟩, ⟨h33, k33⟩, ⟨h32, k32⟩, ⟨h31, k31⟩, ⟨h30, k30⟩, ⟨h29, k29⟩, ⟨h28, k28⟩, ⟨h27, k27⟩, ⟨h26, k26⟩, ⟨h25, k25⟩, ⟨h24, k24⟩, ⟨h23, k23⟩, ⟨h22, k22⟩, ⟨h21, k21⟩, ⟨h20, k20⟩, ⟨h19, k19⟩, ⟨h18, k18⟩, ⟨h17, k17⟩, ⟨h16, k16⟩, ⟨h15, k15⟩, ⟨h14, k14⟩, ⟨h13, k13⟩, ⟨h12, k12⟩, _⟩ := hs
    obtain ⟨a0, a1, a2, a3, _⟩ := ha
    have g12 : [ρ 12, ρ 13, ρ 14, ρ 15, ρ 16, ρ 17] = wds 6 q := get6 rfl h12 h13 h14 h15 h16 h17
    have e18 : ρ 18 = b2i (decide (val [ρ 0, ρ 1, ρ 2, ρ 3, ρ 4, ρ 5] < val [ρ 12, ρ 13, ρ 14, ρ 15, ρ 16, ρ 17])) := h18
    rw [st_dec] at e18
    have g20 : [ρ 20, ρ 21, ρ 22, ρ 23, ρ 24, ρ 25] = wds 6 q := get6 rfl h20 h21 h22 h23 h24 h25
    have e26 : ρ 26 = b2i (decide (val [ρ 6, ρ 7, ρ 8, ρ 9, ρ 10, ρ 11] < val [ρ 20, ρ 21, ρ 22, ρ 23, ρ 24, ρ 25])) := h26
    rw [st_dec] at e26
    have g28 : [ρ 28, ρ 29, ρ 30, ρ 31, ρ 32, ρ 33] = wds 6 q := get6 rfl h28 h29 h30 h31 h32 h33
    have g34 : [ρ 34, ρ 35, ρ 36, ρ 37, ρ 38, ρ 39] = regF 6 [ρ 0, ρ 1, ρ 2, ρ 3, ρ 4, ρ 5, ρ 28, ρ 29, ρ 30, ρ 31, ρ 32, ρ 33] := get6 (regF_length 6 _ rfl) h34 h35 h36 h37 h38 h39
    have g40 : [ρ 40, ρ 41, ρ 42, ρ 43, ρ 44, ρ 45] = wds 6 q := get6 rfl h40 h41 h42 h43 h44 h45
    have g46 : [ρ 46, ρ 47, ρ 48, ρ 49, ρ 50, ρ 51] = regF 6 [ρ 6, ρ 7, ρ 8, ρ 9, ρ 10, ρ 11, ρ 40, ρ 41, ρ 42, ρ 43, ρ 44, ρ 45] := get6 (regF_length 6 _ rfl) h46 h47 h48 h49 h50 h51
    have g52 : ρ 52 = ordI (redM q ri (val [ρ 0, ρ 1, ρ 2, ρ 3, ρ 4, ρ 5])) (redM q ri (val [ρ 6, ρ 7, ρ 8, ρ 9, ρ 10, ρ 11])) := h52
    have e53 : ρ 53 = b2i (decide ([ρ 34, ρ 35, ρ 36, ρ 37, ρ 38, ρ 39] = [ρ 46, ρ 47, ρ 48, ρ 49, ρ 50, ρ 51])) := h53
    rw [st_dec] at e53
    have hp : val (wds 6 q) = q := by kernel_rfl
    rw [g12, hp] at e18
    have hAX : val [ρ 0, ρ 1, ρ 2, ρ 3, ρ 4, ρ 5] < q := by omega
    rw [g20, hp] at e26
    have hAY : val [ρ 6, ρ 7, ρ 8, ρ 9, ρ 10, ρ 11] < q := by omega
    have hrX : [ρ 34, ρ 35, ρ 36, ρ 37, ρ 38, ρ 39] = wds 6 (redM q ri (val [ρ 0, ρ 1, ρ 2, ρ 3, ρ 4, ρ 5])) := by
      have e3 : [ρ 0, ρ 1, ρ 2, ρ 3, ρ 4, ρ 5] ++ [ρ 28, ρ 29, ρ 30, ρ 31, ρ 32, ρ 33] = [ρ 0, ρ 1, ρ 2, ρ 3, ρ 4, ρ 5] ++ wds 6 q := by rw [← g28]
      have e4 := g34
      change _ = regF 6 ([ρ 0, ρ 1, ρ 2, ρ 3, ρ 4, ρ 5] ++ [ρ 28, ρ 29, ρ 30, ρ 31, ρ 32, ρ 33]) at e4
      rw [e4, e3]
      exact law_regular (u64s_cons b0 (u64s_cons b1 (u64s_cons b2 (u64s_cons b3 (u64s_cons b4 (u64s_cons b5 u64s_nil)))))) rfl hAX hp (by decide) (by decide) ri_eq
    have hRX := red_lt (q := q) (ri := ri) (X := val [ρ 0, ρ 1, ρ 2, ρ 3, ρ 4, ρ 5]) q_pos
    have hvX : val [ρ 34, ρ 35, ρ 36, ρ 37, ρ 38, ρ 39] = redM q ri (val [ρ 0, ρ 1, ρ 2, ρ 3, ρ 4, ρ 5]) := by rw [hrX]; exact val_wds_of hRX.1 (Int.lt_trans hRX.2 q_lt)
    have hrY : [ρ 46, ρ 47, ρ 48, ρ 49, ρ 50, ρ 51] = wds 6 (redM q ri (val [ρ 6, ρ 7, ρ 8, ρ 9, ρ 10, ρ 11])) := by
      have e3 : [ρ 6, ρ 7, ρ 8, ρ 9, ρ 10, ρ 11] ++ [ρ 40, ρ 41, ρ 42, ρ 43, ρ 44, ρ 45] = [ρ 6, ρ 7, ρ 8, ρ 9, ρ 10, ρ 11] ++ wds 6 q := by rw [← g40]
      have e4 := g46
      change _ = regF 6 ([ρ 6, ρ 7, ρ 8, ρ 9, ρ 10, ρ 11] ++ [ρ 40, ρ 41, ρ 42, ρ 43, ρ 44, ρ 45]) at e4
      rw [e4, e3]
      exact law_regular (u64s_cons b6 (u64s_cons b7 (u64s_cons b8 (u64s_cons b9 (u64s_cons b10 (u64s_cons b11 u64s_nil)))))) rfl hAY hp (by decide) (by decide) ri_eq
    have hRY := red_lt (q := q) (ri := ri) (X := val [ρ 6, ρ 7, ρ 8, ρ 9, ρ 10, ρ 11]) q_pos
    have hvY : val [ρ 46, ρ 47, ρ 48, ρ 49, ρ 50, ρ 51] = redM q ri (val [ρ 6, ρ 7, ρ 8, ρ 9, ρ 10, ρ 11]) := by rw [hrY]; exact val_wds_of hRY.1 (Int.lt_trans hRY.2 q_lt)
    have hsame : [ρ 34, ρ 35, ρ 36, ρ 37, ρ 38, ρ 39] = [ρ 46, ρ 47, ρ 48, ρ 49, ρ 50, ρ 51] ↔ redM q ri (val [ρ 0, ρ 1, ρ 2, ρ 3, ρ 4, ρ 5]) = redM q ri (val [ρ 6, ρ 7, ρ 8, ρ 9, ρ 10, ρ 11]) := by
      constructor
      · intro h; rw [← hvX, ← hvY, h]
      · intro h; rw [hrX, hrY, h]
    rw [hsame] at e53
    generalize redM q ri (val [ρ 0, ρ 1, ρ 2, ρ 3, ρ 4, ρ 5]) = X at *
    generalize redM q ri (val [ρ 6, ρ 7, ρ 8, ρ 9, ρ 10, ρ 11]) = Y at *
    have hXY : X = Y := (by omega : X = Y)
    have ho : ρ 52 = 0 := by rw [g52, hXY, ordI, if_neg (Int.lt_irrefl _), if_neg (Int.lt_irrefl _)]
    omega
  · simp only [satTr_cons, satTr_nil, sv_lss, sv_leq, sv_gtr, sv_geq, sv_eql, sv_neq, sv_not, sv_beq, sv_pick, sv_add, sv_sub, sv_mul, sv_shr32, sv_shr1, sv_shl63, sv_fn, sv_eqs, E.den, List.map, K.holds] at hs
    simp only [asrOK_cons, asrOK_nil, if_true, if_false, Bool.false_eq_true, E.den] at ha
    obtain ⟨⟨h55, k55⟩, ⟨h54, k54⟩, ⟨h53, k53⟩, ⟨h52, k52⟩, ⟨h51, k51⟩, ⟨h50, k50⟩, ⟨h49, k49⟩, ⟨h48, k48⟩, ⟨h47, k47⟩, ⟨h46, k46⟩, ⟨h45, k45⟩, ⟨h44, k44⟩, ⟨h43, k43⟩, ⟨h42, k42⟩, ⟨h41, k41⟩, ⟨h40, k40⟩, ⟨h39, k39⟩, ⟨h38, k38⟩, ⟨h37, k37⟩, ⟨h36, k36⟩, ⟨h35, k35⟩, ⟨h34, k34⟩, ⟨h33, k33⟩, ⟨h32, k32⟩, ⟨h31, k31⟩, ⟨h30, k30⟩, ⟨h29, k29⟩, ⟨h28, k28⟩, ⟨h27, k27⟩, ⟨h26, k26⟩, ⟨h25, k25⟩, ⟨h24, k24⟩, ⟨h23, k23⟩, ⟨h22, k22⟩, ⟨h21, k21⟩, ⟨h20, k20⟩, ⟨h19, k19⟩, ⟨h18, k18⟩, ⟨h17, k17⟩, ⟨h16, k16⟩, ⟨h15, k15⟩, ⟨h14, k14⟩, ⟨h13, k13⟩, ⟨h12, k12⟩, _⟩ := hs
    obtain ⟨a0, a1, a2, a3, a4, _⟩ := ha
    have g12 : [ρ 12, ρ 13, ρ 14, ρ 15, ρ 16, ρ 17] = wds 6 q := get6 rfl h12 h13 h14 h15 h16 h17
    have e18 : ρ 18 = b2i (decide (val [ρ 0, ρ 1, ρ 2, ρ 3, ρ 4, ρ 5] < val [ρ 12, ρ 13, ρ 14, ρ 15, ρ 16, ρ 17])) := h18
    rw [st_dec] at e18
    have g20 : [ρ 20, ρ 21, ρ 22, ρ 23, ρ 24, ρ 25] = wds 6 q := get6 rfl h20 h21 h22 h23 h24 h25
    have e26 : ρ 26 = b2i (decide (val [ρ 6, ρ 7, ρ 8, ρ 9, ρ 10, ρ 11] < val [ρ 20, ρ 21, ρ 22, ρ 23, ρ 24, ρ 25])) := h26
    rw [st_dec] at e26
    have g28 : [ρ 28, ρ 29, ρ 30, ρ 31, ρ 32, ρ 33] = wds 6 q := get6 rfl h28 h29 h30 h31 h32 h33
    have g34 : [ρ 34, ρ 35, ρ 36, ρ 37, ρ 38, ρ 39] = regF 6 [ρ 0, ρ 1, ρ 2, ρ 3, ρ 4, ρ 5, ρ 28, ρ 29, ρ 30, ρ 31, ρ 32, ρ 33] := get6 (regF_length 6 _ rfl) h34 h35 h36 h37 h38 h39
    have g40 : [ρ 40, ρ 41, ρ 42, ρ 43, ρ 44, ρ 45] = wds 6 q := get6 rfl h40 h41 h42 h43 h44 h45
    have g46 : [ρ 46, ρ 47, ρ 48, ρ 49, ρ 50, ρ 51] = regF 6 [ρ 6, ρ 7, ρ 8, ρ 9, ρ 10, ρ 11, ρ 40, ρ 41, ρ 42, ρ 43, ρ 44, ρ 45] := get6 (regF_length 6 _ rfl) h46 h47 h48 h49 h50 h51
    have g52 : ρ 52 = ordI (redM q ri (val [ρ 0, ρ 1, ρ 2, ρ 3, ρ 4, ρ 5])) (redM q ri (val [ρ 6, ρ 7, ρ 8, ρ 9, ρ 10, ρ 11])) := h52
    have e53 : ρ 53 = b2i (decide ([ρ 34, ρ 35, ρ 36, ρ 37, ρ 38, ρ 39] = [ρ 46, ρ 47, ρ 48, ρ 49, ρ 50, ρ 51])) := h53
    rw [st_dec] at e53
    have e55 : ρ 55 = b2i (decide (val [ρ 46, ρ 47, ρ 48, ρ 49, ρ 50, ρ 51] < val [ρ 34, ρ 35, ρ 36, ρ 37, ρ 38, ρ 39])) := h55
    rw [st_dec] at e55
    rfl
  · simp only [satTr_cons, satTr_nil, sv_lss, sv_leq, sv_gtr, sv_geq, sv_eql, sv_neq, sv_not, sv_beq, sv_pick, sv_add, sv_sub, sv_mul, sv_shr32, sv_shr1, sv_shl63, sv_fn, sv_eqs, E.den, List.map, K.holds] at hs
    simp only [asrOK_cons, asrOK_nil, if_true, if_false, Bool.false_eq_true, E.den] at ha
    obtain ⟨⟨h57, k57⟩, ⟨h56, k56⟩, ⟨h55, k55⟩, ⟨h54, k54⟩, ⟨h53, k53⟩, ⟨h52, k52⟩, ⟨h51, k51⟩, ⟨h50, k50⟩, ⟨h49, k49⟩, ⟨h48, k48⟩, ⟨h47, k47⟩, ⟨h46, k46⟩, ⟨h45, k45⟩, ⟨h44, k44⟩, ⟨h43, k43⟩, ⟨h42, k42⟩, ⟨h41, k41⟩, ⟨h40, k40⟩, ⟨h39, k39⟩, ⟨h38, k38⟩, ⟨h37, k37⟩, ⟨h36, k36⟩, ⟨h35, k35⟩, ⟨h34, k34⟩, ⟨h33, k33⟩, ⟨h32, k32⟩, ⟨h31, k31⟩, ⟨h30, k30⟩, ⟨h29, k29⟩, ⟨h28, k28⟩, ⟨h27, k27⟩, ⟨h26, k26⟩, ⟨h25, k25⟩, ⟨h24, k24⟩, ⟨h23, k23⟩, ⟨h22, k22⟩, ⟨h21, k21⟩, ⟨h20, k20⟩, ⟨h19, k19⟩, ⟨h18, k18⟩, ⟨h17, k17⟩, ⟨h16, k16⟩, ⟨h15, k15⟩, ⟨h14, k14⟩, ⟨h13, k13⟩, ⟨h12, k12⟩, _⟩ := hs
    obtain ⟨a0, a1, a2, a3, a4, a5, _⟩ := ha
    have g12 : [ρ 12, ρ 13, ρ 14, ρ 15, ρ 16, ρ 17] = wds 6 q := get6 rfl h12 h13 h14 h15 h16 h17
    have e18 : ρ 18 = b2i (decide (val [ρ 0, ρ 1, ρ 2, ρ 3, ρ 4, ρ 5] < val [ρ 12, ρ 13, ρ 14, ρ 15, ρ 16, ρ 17])) := h18
    rw [st_dec] at e18
    have g20 : [ρ 20, ρ 21, ρ 22, ρ 23, ρ 24, ρ 25] = wds 6 q := get6 rfl h20 h21 h22 h23 h24 h25
    have e26 : ρ 26 = b2i (decide (val [ρ 6, ρ 7, ρ 8, ρ 9, ρ 10, ρ 11] < val [ρ 20, ρ 21, ρ 22, ρ 23, ρ 24, ρ 25])) := h26
    rw [st_dec] at e26
    have g28 : [ρ 28, ρ 29, ρ 30, ρ 31, ρ 32, ρ 33] = wds 6 q := get6 rfl h28 h29 h30 h31 h32 h33
    have g34 : [ρ 34, ρ 35, ρ 36, ρ 37, ρ 38, ρ 39] = regF 6 [ρ 0, ρ 1, ρ 2, ρ 3, ρ 4, ρ 5, ρ 28, ρ 29, ρ 30, ρ 31, ρ 32, ρ 33] := get6 (regF_length 6 _ rfl) h34 h35 h36 h37 h38 h39
    have g40 : [ρ 40, ρ 41, ρ 42, ρ 43, ρ 44, ρ 45] = wds 6 q := get6 rfl h40 h41 h42 h43 h44 h45
    have g46 : [ρ 46, ρ 47, ρ 48, ρ 49, ρ 50, ρ 51] = regF 6 [ρ 6, ρ 7, ρ 8, ρ 9, ρ 10, ρ 11, ρ 40, ρ 41, ρ 42, ρ 43, ρ 44, ρ 45] := get6 (regF_length 6 _ rfl) h46 h47 h48 h49 h50 h51
    have g52 : ρ 52 = ordI (redM q ri (val [ρ 0, ρ 1, ρ 2, ρ 3, ρ 4, ρ 5])) (redM q ri (val [ρ 6, ρ 7, ρ 8, ρ 9, ρ 10, ρ 11])) := h52
    have e53 : ρ 53 = b2i (decide ([ρ 34, ρ 35, ρ 36, ρ 37, ρ 38, ρ 39] = [ρ 46, ρ 47, ρ 48, ρ 49, ρ 50, ρ 51])) := h53
    rw [st_dec] at e53
    have e55 : ρ 55 = b2i (decide (val [ρ 46, ρ 47, ρ 48, ρ 49, ρ 50, ρ 51] < val [ρ 34, ρ 35, ρ 36, ρ 37, ρ 38, ρ 39])) := h55
    rw [st_dec] at e55
    have e57 : ρ 57 = b2i (decide (val [ρ 34, ρ 35, ρ 36, ρ 37, ρ 38, ρ 39] < val [ρ 46, ρ 47, ρ 48, ρ 49, ρ 50, ρ 51])) := h57
    rw [st_dec] at e57
    have hp : val (wds 6 q) = q := by kernel_rfl
    rw [g12, hp] at e18
    have hAX : val [ρ 0, ρ 1, ρ 2, ρ 3, ρ 4, ρ 5] < q := by omega
    rw [g20, hp] at e26
    have hAY : val [ρ 6, ρ 7, ρ 8, ρ 9, ρ 10, ρ 11] < q := by omega
    have hrX : [ρ 34, ρ 35, ρ 36, ρ 37, ρ 38, ρ 39] = wds 6 (redM q ri (val [ρ 0, ρ 1, ρ 2, ρ 3, ρ 4, ρ 5])) := by
      have e3 : [ρ 0, ρ 1, ρ 2, ρ 3, ρ 4, ρ 5] ++ [ρ 28, ρ 29, ρ 30, ρ 31, ρ 32, ρ 33] = [ρ 0, ρ 1, ρ 2, ρ 3, ρ 4, ρ 5] ++ wds 6 q := by rw [← g28]
      have e4 := g34
      change _ = regF 6 ([ρ 0, ρ 1, ρ 2, ρ 3, ρ 4, ρ 5] ++ [ρ 28, ρ 29, ρ 30, ρ 31, ρ 32, ρ 33]) at e4
      rw [e4, e3]
      exact law_regular (u64s_cons b0 (u64s_cons b1 (u64s_cons b2 (u64s_cons b3 (u64s_cons b4 (u64s_cons b5 u64s_nil)))))) rfl hAX hp (by decide) (by decide) ri_eq
    have hRX := red_lt (q := q) (ri := ri) (X := val [ρ 0, ρ 1, ρ 2, ρ 3, ρ 4, ρ 5]) q_pos
    have hvX : val [ρ 34, ρ 35, ρ 36, ρ 37, ρ 38, ρ 39] = redM q ri (val [ρ 0, ρ 1, ρ 2, ρ 3, ρ 4, ρ 5]) := by rw [hrX]; exact val_wds_of hRX.1 (Int.lt_trans hRX.2 q_lt)
    have hrY : [ρ 46, ρ 47, ρ 48, ρ 49, ρ 50, ρ 51] = wds 6 (redM q ri (val [ρ 6, ρ 7, ρ 8, ρ 9, ρ 10, ρ 11])) := by
      have e3 : [ρ 6, ρ 7, ρ 8, ρ 9, ρ 10, ρ 11] ++ [ρ 40, ρ 41, ρ 42, ρ 43, ρ 44, ρ 45] = [ρ 6, ρ 7, ρ 8, ρ 9, ρ 10, ρ 11] ++ wds 6 q := by rw [← g40]
      have e4 := g46
      change _ = regF 6 ([ρ 6, ρ 7, ρ 8, ρ 9, ρ 10, ρ 11] ++ [ρ 40, ρ 41, ρ 42, ρ 43, ρ 44, ρ 45]) at e4
      rw [e4, e3]
      exact law_regular (u64s_cons b6 (u64s_cons b7 (u64s_cons b8 (u64s_cons b9 (u64s_cons b10 (u64s_cons b11 u64s_nil)))))) rfl hAY hp (by decide) (by decide) ri_eq
    have hRY := red_lt (q := q) (ri := ri) (X := val [ρ 6, ρ 7, ρ 8, ρ 9, ρ 10, ρ 11]) q_pos
    have hvY : val [ρ 46, ρ 47, ρ 48, ρ 49, ρ 50, ρ 51] = redM q ri (val [ρ 6, ρ 7, ρ 8, ρ 9, ρ 10, ρ 11]) := by rw [hrY]; exact val_wds_of hRY.1 (Int.lt_trans hRY.2 q_lt)
    have hsame : [ρ 34, ρ 35, ρ 36, ρ 37, ρ 38, ρ 39] = [ρ 46, ρ 47, ρ 48, ρ 49, ρ 50, ρ 51] ↔ redM q ri (val [ρ 0, ρ 1, ρ 2, ρ 3, ρ 4, ρ 5]) = redM q ri (val [ρ 6, ρ 7, ρ 8, ρ 9, ρ 10, ρ 11]) := by
      constructor
      · intro h; rw [← hvX, ← hvY, h]
      · intro h; rw [hrX, hrY, h]
    rw [hsame] at e53
    rw [hvY, hvX] at e55
    rw [hvX, hvY] at e57
    generalize redM q ri (val [ρ 0, ρ 1, ρ 2, ρ 3, ρ 4, ρ 5]) = X at *
    generalize redM q ri (val [ρ 6, ρ 7, ρ 8, ρ 9, ρ 10, ρ 11]) = Y at *
    have hne : ¬ X = Y := (by omega : ¬ X = Y)
    have ho : (Y < X ∧ ρ 52 = 1) ∨ (X < Y ∧ ρ 52 = -1) := by
      rw [g52, ordI]
      rcases Int.lt_trichotomy X Y with h | h | h
      · right; exact ⟨h, by rw [if_neg (by omega), if_pos h]⟩
      · exact absurd h hne
      · left; exact ⟨h, by rw [if_pos h]⟩
    have hf : ρ 57 = 1 := by omega
    change [1] = [ρ 57]
    rw [hf]
  · simp only [satTr_cons, satTr_nil, sv_lss, sv_leq, sv_gtr, sv_geq, sv_eql, sv_neq, sv_not, sv_beq, sv_pick, sv_add, sv_sub, sv_mul, sv_shr32, sv_shr1, sv_shl63, sv_fn, sv_eqs, E.den, List.map, K.holds] at hs
    simp only [asrOK_cons, asrOK_nil, if_true, if_false, Bool.false_eq_true, E.den] at ha
    obtain ⟨⟨h56, k56⟩, ⟨h55, k55⟩, ⟨h54, k54⟩, ⟨h53, k53⟩, ⟨h52, k52⟩, ⟨h51, k51⟩, ⟨h50, k50⟩, ⟨h49, k49⟩, ⟨h48, k48⟩, ⟨h47, k47⟩, ⟨h46, k46⟩, ⟨h45, k45⟩, ⟨h44, k44⟩, ⟨h43, k43⟩, ⟨h42, k42⟩, ⟨h41, k41⟩, ⟨h40, k40⟩, ⟨h39, k39⟩, ⟨h38, k38⟩, ⟨h37, k37⟩, ⟨h36, k36⟩, ⟨h35, k35⟩, ⟨h34, k34⟩, ⟨h33, k33⟩, ⟨h32, k32⟩, ⟨h31, k31⟩, ⟨h30, k30⟩, ⟨h29, k29⟩, ⟨h28, k28⟩, ⟨h27, k27⟩, ⟨h26, k26⟩, ⟨h25, k25⟩, ⟨h24, k24⟩, ⟨h23, k23⟩, ⟨h22, k22⟩, ⟨h21, k21⟩, ⟨h20, k20⟩, ⟨h19, k19⟩, ⟨h18, k18⟩, ⟨h17, k17⟩, ⟨h16, k16⟩, ⟨h15, k15⟩, ⟨h14, k14⟩, ⟨h13, k13⟩, ⟨h12, k12⟩, _⟩ := hs
    obtain ⟨a0, a1, a2, a3, a4, a5, _⟩ := ha
    have g12 : [ρ 12, ρ 13, ρ 14, ρ 15, ρ 16, ρ 17] = wds 6 q := get6 rfl h12 h13 h14 h15 h16 h17
    have e18 : ρ 18 = b2i (decide (val [ρ 0, ρ 1, ρ 2, ρ 3, ρ 4, ρ 5] < val [ρ 12, ρ 13, ρ 14, ρ 15, ρ 16, ρ 17])) := h18
    rw [st_dec] at e18
    have g20 : [ρ 20, ρ 21, ρ 22, ρ 23, ρ 24, ρ 25] = wds 6 q := get6 rfl h20 h21 h22 h23 h24 h25
    have e26 : ρ 26 = b2i (decide (val [ρ 6, ρ 7, ρ 8, ρ 9, ρ 10, ρ 11] < val [ρ 20, ρ 21, ρ 22, ρ 23, ρ 24, ρ 25])) := h26
    rw [st_dec] at e26
    have g28 : [ρ 28, ρ 29, ρ 30, ρ 31, ρ 32, ρ 33] = wds 6 q := get6 rfl h28 h29 h30 h31 h32 h33
    have g34 : [ρ 34, ρ 35, ρ 36, ρ 37, ρ 38, ρ 39] = regF 6 [ρ 0, ρ 1, ρ 2, ρ 3, ρ 4, ρ 5, ρ 28, ρ 29, ρ 30, ρ 31, ρ 32, ρ 33] := get6 (regF_length 6 _ rfl) h34 h35 h36 h37 h38 h39
    have g40 : [ρ 40, ρ 41, ρ 42, ρ 43, ρ 44, ρ 45] = wds 6 q := get6 rfl h40 h41 h42 h43 h44 h45
    have g46 : [ρ 46, ρ 47, ρ 48, ρ 49, ρ 50, ρ 51] = regF 6 [ρ 6, ρ 7, ρ 8, ρ 9, ρ 10, ρ 11, ρ 40, ρ 41, ρ 42, ρ 43, ρ 44, ρ 45] := get6 (regF_length 6 _ rfl) h46 h47 h48 h49 h50 h51
    have g52 : ρ 52 = ordI (redM q ri (val [ρ 0, ρ 1, ρ 2, ρ 3, ρ 4, ρ 5])) (redM q ri (val [ρ 6, ρ 7, ρ 8, ρ 9, ρ 10, ρ 11])) := h52
    have e53 : ρ 53 = b2i (decide ([ρ 34, ρ 35, ρ 36, ρ 37, ρ 38, ρ 39] = [ρ 46, ρ 47, ρ 48, ρ 49, ρ 50, ρ 51])) := h53
    rw [st_dec] at e53
    have e55 : ρ 55 = b2i (decide (val [ρ 46, ρ 47, ρ 48, ρ 49, ρ 50, ρ 51] < val [ρ 34, ρ 35, ρ 36, ρ 37, ρ 38, ρ 39])) := h55
    rw [st_dec] at e55
    have hp : val (wds 6 q) = q := by kernel_rfl
    rw [g12, hp] at e18
    have hAX : val [ρ 0, ρ 1, ρ 2, ρ 3, ρ 4, ρ 5] < q := by omega
    rw [g20, hp] at e26
    have hAY : val [ρ 6, ρ 7, ρ 8, ρ 9, ρ 10, ρ 11] < q := by omega
    have hrX : [ρ 34, ρ 35, ρ 36, ρ 37, ρ 38, ρ 39] = wds 6 (redM q ri (val [ρ 0, ρ 1, ρ 2, ρ 3, ρ 4, ρ 5])) := by
      have e3 : [ρ 0, ρ 1, ρ 2, ρ 3, ρ 4, ρ 5] ++ [ρ 28, ρ 29, ρ 30, ρ 31, ρ 32, ρ 33] = [ρ 0, ρ 1, ρ 2, ρ 3, ρ 4, ρ 5] ++ wds 6 q := by rw [← g28]
      have e4 := g34
      change _ = regF 6 ([ρ 0, ρ 1, ρ 2, ρ 3, ρ 4, ρ 5] ++ [ρ 28, ρ 29, ρ 30, ρ 31, ρ 32, ρ 33]) at e4
      rw [e4, e3]
      exact law_regular (u64s_cons b0 (u64s_cons b1 (u64s_cons b2 (u64s_cons b3 (u64s_cons b4 (u64s_cons b5 u64s_nil)))))) rfl hAX hp (by decide) (by decide) ri_eq
    have hRX := red_lt (q := q) (ri := ri) (X := val [ρ 0, ρ 1, ρ 2, ρ 3, ρ 4, ρ 5]) q_pos
    have hvX : val [ρ 34, ρ 35, ρ 36, ρ 37, ρ 38, ρ 39] = redM q ri (val [ρ 0, ρ 1, ρ 2, ρ 3, ρ 4, ρ 5]) := by rw [hrX]; exact val_wds_of hRX.1 (Int.lt_trans hRX.2 q_lt)
    have hrY : [ρ 46, ρ 47, ρ 48, ρ 49, ρ 50, ρ 51] = wds 6 (redM q ri (val [ρ 6, ρ 7, ρ 8, ρ 9, ρ 10, ρ 11])) := by
      have e3 : [ρ 6, ρ 7, ρ 8, ρ 9, ρ 10, ρ 11] ++ [ρ 40, ρ 41, ρ 42, ρ 43, ρ 44, ρ 45] = [ρ 6, ρ 7, ρ 8, ρ 9, ρ 10, ρ 11] ++ wds 6 q := by rw [← g40]
      have e4 := g46
      change _ = regF 6 ([ρ 6, ρ 7, ρ 8, ρ 9, ρ 10, ρ 11] ++ [ρ 40, ρ 41, ρ 42, ρ 43, ρ 44, ρ 45]) at e4
      rw [e4, e3]
      exact law_regular (u64s_cons b6 (u64s_cons b7 (u64s_cons b8 (u64s_cons b9 (u64s_cons b10 (u64s_cons b11 u64s_nil)))))) rfl hAY hp (by decide) (by decide) ri_eq
    have hRY := red_lt (q := q) (ri := ri) (X := val [ρ 6, ρ 7, ρ 8, ρ 9, ρ 10, ρ 11]) q_pos
    have hvY : val [ρ 46, ρ 47, ρ 48, ρ 49, ρ 50, ρ 51] = redM q ri (val [ρ 6, ρ 7, ρ 8, ρ 9, ρ 10, ρ 11]) := by rw [hrY]; exact val_wds_of hRY.1 (Int.lt_trans hRY.2 q_lt)
    have hsame : [ρ 34, ρ 35, ρ 36, ρ 37, ρ 38, ρ 39] = [ρ 46, ρ 47, ρ 48, ρ 49, ρ 50, ρ 51] ↔ redM q ri (val [ρ 0, ρ 1, ρ 2, ρ 3, ρ 4, ρ 5]) = redM q ri (val [ρ 6, ρ 7, ρ 8, ρ 9, ρ 10, ρ 11]) := by
      constructor
      · intro h; rw [← hvX, ← hvY, h]
      · intro h; rw [hrX, hrY, h]
    rw [hsame] at e53
    rw [hvY, hvX] at e55
    generalize redM q ri (val [ρ 0, ρ 1, ρ 2, ρ 3, ρ 4, ρ 5]) = X at *
    generalize redM q ri (val [ρ 6, ρ 7, ρ 8, ρ 9, ρ 10, ρ 11]) = Y at *
    have hne : ¬ X = Y := (by omega : ¬ X = Y)
    have ho : (Y < X ∧ ρ 52 = 1) ∨ (X < Y ∧ ρ 52 = -1) := by
      rw [g52, ordI]
      rcases Int.lt_trichotomy X Y with h | h | h
      · right; exact ⟨h, by rw [if_neg (by omega), if_pos h]⟩
      · exact absurd h hne
      · left; exact ⟨h, by rw [if_pos h]⟩
    omega
  · simp only [satTr_cons, satTr_nil, sv_lss, sv_leq, sv_gtr, sv_geq, sv_eql, sv_neq, sv_not, sv_beq, sv_pick, sv_add, sv_sub, sv_mul, sv_shr32, sv_shr1, sv_shl63, sv_fn, sv_eqs, E.den, List.map, K.holds] at hs
    simp only [asrOK_cons, asrOK_nil, if_true, if_false, Bool.false_eq_true, E.den] at ha
    obtain ⟨⟨h56, k56⟩, ⟨h55, k55⟩, ⟨h54, k54⟩, ⟨h53, k53⟩, ⟨h52, k52⟩, ⟨h51, k51⟩, ⟨h50, k50⟩, ⟨h49, k49⟩, ⟨h48, k48⟩, ⟨h47, k47⟩, ⟨h46, k46⟩, ⟨h45, k45⟩, ⟨h44, k44⟩, ⟨h43, k43⟩, ⟨h42, k42⟩, ⟨h41, k41⟩, ⟨h40, k40⟩, ⟨h39, k39⟩, ⟨h38, k38⟩, ⟨h37, k37⟩, ⟨h36, k36⟩, ⟨h35, k35⟩, ⟨h34, k34⟩, ⟨h33, k33⟩, ⟨h32, k32⟩, ⟨h31, k31⟩, ⟨h30, k30⟩, ⟨h29, k29⟩, ⟨h28, k28⟩, ⟨h27, k27⟩, ⟨h26, k26⟩, ⟨h25, k25⟩, ⟨h24, k24⟩, ⟨h23, k23⟩, ⟨h22, k22⟩, ⟨h21, k21⟩, ⟨h20, k20⟩, ⟨h19, k19⟩, ⟨h18, k18⟩, ⟨h17, k17⟩, ⟨h16, k16⟩, ⟨h15, k15⟩, ⟨h14, k14⟩, ⟨h13, k13⟩, ⟨h12, k12⟩, _⟩ := hs
    obtain ⟨a0, a1, a2, a3, a4, _⟩ := ha
    have g12 : [ρ 12, ρ 13, ρ 14, ρ 15, ρ 16, ρ 17] = wds 6 q := get6 rfl h12 h13 h14 h15 h16 h17
    have e18 : ρ 18 = b2i (decide (val [ρ 0, ρ 1, ρ 2, ρ 3, ρ 4, ρ 5] < val [ρ 12, ρ 13, ρ 14, ρ 15, ρ 16, ρ 17])) := h18
    rw [st_dec] at e18
    have g20 : [ρ 20, ρ 21, ρ 22, ρ 23, ρ 24, ρ 25] = wds 6 q := get6 rfl h20 h21 h22 h23 h24 h25
    have e26 : ρ 26 = b2i (decide (val [ρ 6, ρ 7, ρ 8, ρ 9, ρ 10, ρ 11] < val [ρ 20, ρ 21, ρ 22, ρ 23, ρ 24, ρ 25])) := h26
    rw [st_dec] at e26
    have g28 : [ρ 28, ρ 29, ρ 30, ρ 31, ρ 32, ρ 33] = wds 6 q := get6 rfl h28 h29 h30 h31 h32 h33
    have g34 : [ρ 34, ρ 35, ρ 36, ρ 37, ρ 38, ρ 39] = regF 6 [ρ 0, ρ 1, ρ 2, ρ 3, ρ 4, ρ 5, ρ 28, ρ 29, ρ 30, ρ 31, ρ 32, ρ 33] := get6 (regF_length 6 _ rfl) h34 h35 h36 h37 h38 h39
    have g40 : [ρ 40, ρ 41, ρ 42, ρ 43, ρ 44, ρ 45] = wds 6 q := get6 rfl h40 h41 h42 h43 h44 h45
    have g46 : [ρ 46, ρ 47, ρ 48, ρ 49, ρ 50, ρ 51] = regF 6 [ρ 6, ρ 7, ρ 8, ρ 9, ρ 10, ρ 11, ρ 40, ρ 41, ρ 42, ρ 43, ρ 44, ρ 45] := get6 (regF_length 6 _ rfl) h46 h47 h48 h49 h50 h51
    have g52 : ρ 52 = ordI (redM q ri (val [ρ 0, ρ 1, ρ 2, ρ 3, ρ 4, ρ 5])) (redM q ri (val [ρ 6, ρ 7, ρ 8, ρ 9, ρ 10, ρ 11])) := h52
    have e53 : ρ 53 = b2i (decide ([ρ 34, ρ 35, ρ 36, ρ 37, ρ 38, ρ 39] = [ρ 46, ρ 47, ρ 48, ρ 49, ρ 50, ρ 51])) := h53
    rw [st_dec] at e53
    have e56 : ρ 56 = b2i (decide (val [ρ 34, ρ 35, ρ 36, ρ 37, ρ 38, ρ 39] < val [ρ 46, ρ 47, ρ 48, ρ 49, ρ 50, ρ 51])) := h56
    rw [st_dec] at e56
    have hp : val (wds 6 q) = q := by kernel_rfl
    rw [g12, hp] at e18
    have hAX : val [ρ 0, ρ 1, ρ 2, ρ 3, ρ 4, ρ 5] < q := by omega
    rw [g20, hp] at e26
    have hAY : val [ρ 6, ρ 7, ρ 8, ρ 9, ρ 10, ρ 11] < q := by omega
    have hrX : [ρ 34, ρ 35, ρ 36, ρ 37, ρ 38, ρ 39] = wds 6 (redM q ri (val [ρ 0, ρ 1, ρ 2, ρ 3, ρ 4, ρ 5])) := by
      have e3 : [ρ 0, ρ 1, ρ 2, ρ 3, ρ 4, ρ 5] ++ [ρ 28, ρ 29, ρ 30, ρ 31, ρ 32, ρ 33] = [ρ 0, ρ 1, ρ 2, ρ 3, ρ 4, ρ 5] ++ wds 6 q := by rw [← g28]
      have e4 := g34
      change _ = regF 6 ([ρ 0, ρ 1, ρ 2, ρ 3, ρ 4, ρ 5] ++ [ρ 28, ρ 29, ρ 30, ρ 31, ρ 32, ρ 33]) at e4
      rw [e4, e3]
      exact law_regular (u64s_cons b0 (u64s_cons b1 (u64s_cons b2 (u64s_cons b3 (u64s_cons b4 (u64s_cons b5 u64s_nil)))))) rfl hAX hp (by decide) (by decide) ri_eq
    have hRX := red_lt (q := q) (ri := ri) (X := val [ρ 0, ρ 1, ρ 2, ρ 3, ρ 4, ρ 5]) q_pos
    have hvX : val [ρ 34, ρ 35, ρ 36, ρ 37, ρ 38, ρ 39] = redM q ri (val [ρ 0, ρ 1, ρ 2, ρ 3, ρ 4, ρ 5]) := by rw [hrX]; exact val_wds_of hRX.1 (Int.lt_trans hRX.2 q_lt)
    have hrY : [ρ 46, ρ 47, ρ 48, ρ 49, ρ 50, ρ 51] = wds 6 (redM q ri (val [ρ 6, ρ 7, ρ 8, ρ 9, ρ 10, ρ 11])) := by
      have e3 : [ρ 6, ρ 7, ρ 8, ρ 9, ρ 10, ρ 11] ++ [ρ 40, ρ 41, ρ 42, ρ 43, ρ 44, ρ 45] = [ρ 6, ρ 7, ρ 8, ρ 9, ρ 10, ρ 11] ++ wds 6 q := by rw [← g40]
      have e4 := g46
      change _ = regF 6 ([ρ 6, ρ 7, ρ 8, ρ 9, ρ 10, ρ 11] ++ [ρ 40, ρ 41, ρ 42, ρ 43, ρ 44, ρ 45]) at e4
      rw [e4, e3]
      exact law_regular (u64s_cons b6 (u64s_cons b7 (u64s_cons b8 (u64s_cons b9 (u64s_cons b10 (u64s_cons b11 u64s_nil)))))) rfl hAY hp (by decide) (by decide) ri_eq
    have hRY := red_lt (q := q) (ri := ri) (X := val [ρ 6, ρ 7, ρ 8, ρ 9, ρ 10, ρ 11]) q_pos
    have hvY : val [ρ 46, ρ 47, ρ 48, ρ 49, ρ 50, ρ 51] = redM q ri (val [ρ 6, ρ 7, ρ 8, ρ 9, ρ 10, ρ 11]) := by rw [hrY]; exact val_wds_of hRY.1 (Int.lt_trans hRY.2 q_lt)
    have hsame : [ρ 34, ρ 35, ρ 36, ρ 37, ρ 38, ρ 39] = [ρ 46, ρ 47, ρ 48, ρ 49, ρ 50, ρ 51] ↔ redM q ri (val [ρ 0, ρ 1, ρ 2, ρ 3, ρ 4, ρ 5]) = redM q ri (val [ρ 6, ρ 7, ρ 8, ρ 9, ρ 10, ρ 11]) := by
      constructor
      · intro h; rw [← hvX, ← hvY, h]
      · intro h; rw [hrX, hrY, h]
    rw [hsame] at e53
    rw [hvX, hvY] at e56
    generalize redM q ri (val [ρ 0, ρ 1, ρ 2, ρ 3, ρ 4, ρ 5]) = X at *
    generalize redM q ri (val [ρ 6, ρ 7, ρ 8, ρ 9, ρ 10, ρ 11]) = Y at *
    have hne : ¬ X = Y := (by omega : ¬ X = Y)
    have ho : (Y < X ∧ ρ 52 = 1) ∨ (X < Y ∧ ρ 52 = -1) := by
      rw [g52, ordI]
      rcases Int.lt_trichotomy X Y with h | h | h
      · right; exact ⟨h, by rw [if_neg (by omega), if_pos h]⟩
      · exact absurd h hne
      · left; exact ⟨h, by rw [if_pos h]⟩
    have hf : ρ 56 = 1 := by omega
    change [1] = [ρ 56]
    rw [hf]
  · simp only [satTr_cons, satTr_nil, sv_lss, sv_leq, sv_gtr, sv_geq, sv_eql, sv_neq, sv_not, sv_beq, sv_pick, sv_add, sv_sub, sv_mul, sv_shr32, sv_shr1, sv_shl63, sv_fn, sv_eqs, E.den, List.map, K.holds] at hs
    simp only [asrOK_cons, asrOK_nil, if_true, if_false, Bool.false_eq_true, E.den] at ha
    obtain ⟨⟨h55, k55⟩, ⟨h54, k54⟩, ⟨h53, k53⟩, ⟨h52, k52⟩, ⟨h51, k51⟩, ⟨h50, k50⟩, ⟨h49, k49⟩, ⟨h48, k48⟩, ⟨h47, k47⟩, ⟨h46, k46⟩, ⟨h45, k45⟩, ⟨h44, k44⟩, ⟨h43, k43⟩, ⟨h42, k42⟩, ⟨h41, k41⟩, ⟨h40, k40⟩, ⟨h39, k39⟩, ⟨h38, k38⟩, ⟨h37, k37⟩, ⟨h36, k36⟩, ⟨h35, k35⟩, ⟨h34, k34⟩, ⟨h33, k33⟩, ⟨h32, k32⟩, ⟨h31, k31⟩, ⟨h30, k30⟩, ⟨h29, k29⟩, ⟨h28, k28⟩, ⟨h27, k27⟩, ⟨h26, k26⟩, ⟨h25, k25⟩, ⟨h24, k24⟩, ⟨h23, k23⟩, ⟨h22, k22⟩, ⟨h21, k21⟩, ⟨h20, k20⟩, ⟨h19, k19⟩, ⟨h18, k18⟩, ⟨h17, k17⟩, ⟨h16, k16⟩, ⟨h15, k15⟩, ⟨h14, k14⟩, ⟨h13, k13⟩, ⟨h12, k12⟩, _⟩ := hs
    obtain ⟨a0, a1, a2, a3, a4, _⟩ := ha
    have g12 : [ρ 12, ρ 13, ρ 14, ρ 15, ρ 16, ρ 17] = wds 6 q := get6 rfl h12 h13 h14 h15 h16 h17
    have e18 : ρ 18 = b2i (decide (val [ρ 0, ρ 1, ρ 2, ρ 3, ρ 4, ρ 5] < val [ρ 12, ρ 13, ρ 14, ρ 15, ρ 16, ρ 17])) := h18
    rw [st_dec] at e18
    have g20 : [ρ 20, ρ 21, ρ 22, ρ 23, ρ 24, ρ 25] = wds 6 q := get6 rfl h20 h21 h22 h23 h24 h25
    have e26 : ρ 26 = b2i (decide (val [ρ 6, ρ 7, ρ 8, ρ 9, ρ 10, ρ 11] < val [ρ 20, ρ 21, ρ 22, ρ 23, ρ 24, ρ 25])) := h26
    rw [st_dec] at e26
    have g28 : [ρ 28, ρ 29, ρ 30, ρ 31, ρ 32, ρ 33] = wds 6 q := get6 rfl h28 h29 h30 h31 h32 h33
    have g34 : [ρ 34, ρ 35, ρ 36, ρ 37, ρ 38, ρ 39] = regF 6 [ρ 0, ρ 1, ρ 2, ρ 3, ρ 4, ρ 5, ρ 28, ρ 29, ρ 30, ρ 31, ρ 32, ρ 33] := get6 (regF_length 6 _ rfl) h34 h35 h36 h37 h38 h39
    have g40 : [ρ 40, ρ 41, ρ 42, ρ 43, ρ 44, ρ 45] = wds 6 q := get6 rfl h40 h41 h42 h43 h44 h45
    have g46 : [ρ 46, ρ 47, ρ 48, ρ 49, ρ 50, ρ 51] = regF 6 [ρ 6, ρ 7, ρ 8, ρ 9, ρ 10, ρ 11, ρ 40, ρ 41, ρ 42, ρ 43, ρ 44, ρ 45] := get6 (regF_length 6 _ rfl) h46 h47 h48 h49 h50 h51
    have g52 : ρ 52 = ordI (redM q ri (val [ρ 0, ρ 1, ρ 2, ρ 3, ρ 4, ρ 5])) (redM q ri (val [ρ 6, ρ 7, ρ 8, ρ 9, ρ 10, ρ 11])) := h52
    have e53 : ρ 53 = b2i (decide ([ρ 34, ρ 35, ρ 36, ρ 37, ρ 38, ρ 39] = [ρ 46, ρ 47, ρ 48, ρ 49, ρ 50, ρ 51])) := h53
    rw [st_dec] at e53
    have hp : val (wds 6 q) = q := by kernel_rfl
    rw [g12, hp] at e18
    have hAX : val [ρ 0, ρ 1, ρ 2, ρ 3, ρ 4, ρ 5] < q := by omega
    rw [g20, hp] at e26
    have hAY : val [ρ 6, ρ 7, ρ 8, ρ 9, ρ 10, ρ 11] < q := by omega
    have hrX : [ρ 34, ρ 35, ρ 36, ρ 37, ρ 38, ρ 39] = wds 6 (redM q ri (val [ρ 0, ρ 1, ρ 2, ρ 3, ρ 4, ρ 5])) := by
      have e3 : [ρ 0, ρ 1, ρ 2, ρ 3, ρ 4, ρ 5] ++ [ρ 28, ρ 29, ρ 30, ρ 31, ρ 32, ρ 33] = [ρ 0, ρ 1, ρ 2, ρ 3, ρ 4, ρ 5] ++ wds 6 q := by rw [← g28]
      have e4 := g34
      change _ = regF 6 ([ρ 0, ρ 1, ρ 2, ρ 3, ρ 4, ρ 5] ++ [ρ 28, ρ 29, ρ 30, ρ 31, ρ 32, ρ 33]) at e4
      rw [e4, e3]
      exact law_regular (u64s_cons b0 (u64s_cons b1 (u64s_cons b2 (u64s_cons b3 (u64s_cons b4 (u64s_cons b5 u64s_nil)))))) rfl hAX hp (by decide) (by decide) ri_eq
    have hRX := red_lt (q := q) (ri := ri) (X := val [ρ 0, ρ 1, ρ 2, ρ 3, ρ 4, ρ 5]) q_pos
    have hvX : val [ρ 34, ρ 35, ρ 36, ρ 37, ρ 38, ρ 39] = redM q ri (val [ρ 0, ρ 1, ρ 2, ρ 3, ρ 4, ρ 5]) := by rw [hrX]; exact val_wds_of hRX.1 (Int.lt_trans hRX.2 q_lt)
    have hrY : [ρ 46, ρ 47, ρ 48, ρ 49, ρ 50, ρ 51] = wds 6 (redM q ri (val [ρ 6, ρ 7, ρ 8, ρ 9, ρ 10, ρ 11])) := by
      have e3 : [ρ 6, ρ 7, ρ 8, ρ 9, ρ 10, ρ 11] ++ [ρ 40, ρ 41, ρ 42, ρ 43, ρ 44, ρ 45] = [ρ 6, ρ 7, ρ 8, ρ 9, ρ 10, ρ 11] ++ wds 6 q := by rw [← g40]
      have e4 := g46
      change _ = regF 6 ([ρ 6, ρ 7, ρ 8, ρ 9, ρ 10, ρ 11] ++ [ρ 40, ρ 41, ρ 42, ρ 43, ρ 44, ρ 45]) at e4
      rw [e4, e3]
      exact law_regular (u64s_cons b6 (u64s_cons b7 (u64s_cons b8 (u64s_cons b9 (u64s_cons b10 (u64s_cons b11 u64s_nil)))))) rfl hAY hp (by decide) (by decide) ri_eq
    have hRY := red_lt (q := q) (ri := ri) (X := val [ρ 6, ρ 7, ρ 8, ρ 9, ρ 10, ρ 11]) q_pos
    have hvY : val [ρ 46, ρ 47, ρ 48, ρ 49, ρ 50, ρ 51] = redM q ri (val [ρ 6, ρ 7, ρ 8, ρ 9, ρ 10, ρ 11]) := by rw [hrY]; exact val_wds_of hRY.1 (Int.lt_trans hRY.2 q_lt)
    have hsame : [ρ 34, ρ 35, ρ 36, ρ 37, ρ 38, ρ 39] = [ρ 46, ρ 47, ρ 48, ρ 49, ρ 50, ρ 51] ↔ redM q ri (val [ρ 0, ρ 1, ρ 2, ρ 3, ρ 4, ρ 5]) = redM q ri (val [ρ 6, ρ 7, ρ 8, ρ 9, ρ 10, ρ 11]) := by
      constructor
      · intro h; rw [← hvX, ← hvY, h]
      · intro h; rw [hrX, hrY, h]
    rw [hsame] at e53
    generalize redM q ri (val [ρ 0, ρ 1, ρ 2, ρ 3, ρ 4, ρ 5]) = X at *
    generalize redM q ri (val [ρ 6, ρ 7, ρ 8, ρ 9, ρ 10, ρ 11]) = Y at *
    have hne : ¬ X = Y := (by omega : ¬ X = Y)
    have ho : (Y < X ∧ ρ 52 = 1) ∨ (X < Y ∧ ρ 52 = -1) := by
      rw [g52, ordI]
      rcases Int.lt_trichotomy X Y with h | h | h
      · right; exact ⟨h, by rw [if_neg (by omega), if_pos h]⟩
      · exact absurd h hne
      · left; exact ⟨h, by rw [if_pos h]⟩
    omega

end Go.Proofs.Ytmhgmobbifaeiaa
