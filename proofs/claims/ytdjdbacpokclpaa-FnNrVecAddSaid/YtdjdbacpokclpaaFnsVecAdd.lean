/- The functions of the seat Ytdjdbacpokclpaa, each once: its ways through the text, and what it comes to in numbers. Written by a program (gen.py). -/
import Derived.Test.YtdjdbacpokclpaaSymU
import Derived.Test.YtdjdbacpokclpaaSymZ
import Derived.Test.YtdjdbacpokclpaaRows
set_option linter.unusedVariables false
set_option linter.unusedSimpArgs false
set_option maxRecDepth 4000
namespace Go.Proofs.Ytdjdbacpokclpaa
open Go.Sym

def q : Int := 21888242871839275222246405745257275088548364400416034343698204186575808495617
def r : Int := 6350874878119819312338956282401532410528162663560392320966563075034087161851

def Phi : Nat → List Int → List Int
  | 8 => lessF 4
  | 9 => primeF 4 q
  | 16 => setF 4 r
  | 18 => smallF q
  | 14 => eaddF 4 q
  | 13 => setF 4 r
  | 6 => setF 4 r
  | 7 => aaddF 4 q
  | 17 => add64F
  | 19 => sub64F
  | _ => fun _ => []

theorem ok_add64 : SummOK Try.prog 17 addSub (Phi 17) := summ_add64 Try.func17 (by kernel_rfl) (by kernel_rfl) (by kernel_rfl) (by kernel_rfl)

theorem ok_sub64 : SummOK Try.prog 19 addSub (Phi 19) := summ_sub64 Try.func19 (by kernel_rfl) (by kernel_rfl) (by kernel_rfl) (by kernel_rfl)

/-! ### less -/
def su_less : Summ := ⟨[.slc 4, .slc 4], none, [.sc .bool]⟩
def t_less0 : CT := .node (.v 8)
  (.leaf ⟨[(9, .bool, .cmp .lss (.v 3) (.v 7)),
    (8, .bool, .cmp .neq (.v 3) (.v 7))],
    [(.v 8, true)], [.v 9]⟩)
  (.node (.v 9)
  (.leaf ⟨[(10, .bool, .cmp .lss (.v 2) (.v 6)),
    (9, .bool, .cmp .neq (.v 2) (.v 6)),
    (8, .bool, .cmp .neq (.v 3) (.v 7))],
    [(.v 9, true), (.v 8, false)], [.v 10]⟩)
  (.node (.v 10)
  (.leaf ⟨[(11, .bool, .cmp .lss (.v 1) (.v 5)),
    (10, .bool, .cmp .neq (.v 1) (.v 5)),
    (9, .bool, .cmp .neq (.v 2) (.v 6)),
    (8, .bool, .cmp .neq (.v 3) (.v 7))],
    [(.v 10, true), (.v 9, false), (.v 8, false)], [.v 11]⟩)
  (.node (.v 11)
  (.leaf ⟨[(12, .bool, .cmp .lss (.v 0) (.v 4)),
    (11, .bool, .cmp .neq (.v 0) (.v 4)),
    (10, .bool, .cmp .neq (.v 1) (.v 5)),
    (9, .bool, .cmp .neq (.v 2) (.v 6)),
    (8, .bool, .cmp .neq (.v 3) (.v 7))],
    [(.v 11, true), (.v 10, false), (.v 9, false), (.v 8, false)], [.v 12]⟩)
  (.leaf ⟨[(11, .bool, .cmp .neq (.v 0) (.v 4)),
    (10, .bool, .cmp .neq (.v 1) (.v 5)),
    (9, .bool, .cmp .neq (.v 2) (.v 6)),
    (8, .bool, .cmp .neq (.v 3) (.v 7))],
    [(.v 11, false), (.v 10, false), (.v 9, false), (.v 8, false)], [.c 0]⟩))))
theorem chk_less : checkFn Try.prog [] su_less 400 Try.f8 (fun _ => t_less0) = true := by kernel_rfl
theorem ok_less : SummOK Try.prog 8 su_less (Phi 8) := by
  refine summ_fn (Φ := Phi) 400 (fun _ => t_less0) Try.func8 tbl_nil chk_less ?_
  intro al hal l hl ρ hk hs ha
  have hn : su_less.inKinds.length = 8 := rfl
  have hr : row ρ 8 = [ρ 0, ρ 1, ρ 2, ρ 3, ρ 4, ρ 5, ρ 6, ρ 7] := rfl
  rw [hn, hr] at hk ⊢
  simp only [su_less, Summ.inKinds, List.flatMap_cons, List.flatMap_nil, List.replicate, List.cons_append, List.nil_append, List.append_nil, holdsAll, K.holds] at hk
  obtain ⟨b0, b1, b2, b3, b4, b5, b6, b7, _⟩ := hk
  simp only [t_less0, CT.leaves, List.cons_append, List.nil_append, List.mem_cons, List.not_mem_nil, or_false] at hl
  rcases hl with rfl | rfl | rfl | rfl | rfl
  · simp only [satTr_cons, satTr_nil, sv_lss, sv_leq, sv_gtr, sv_geq, sv_eql, sv_neq, sv_not, sv_beq, sv_pick, sv_add, sv_sub, sv_fn, sv_eqs, E.den, List.map, K.holds] at hs
    simp only [asrOK_cons, asrOK_nil, if_true, if_false, Bool.false_eq_true, E.den] at ha
    obtain ⟨⟨h9, k9⟩, ⟨h8, k8⟩, _⟩ := hs
    obtain ⟨a0, _⟩ := ha
    refine dec_one (p := val [ρ 0, ρ 1, ρ 2, ρ 3] < val [ρ 4, ρ 5, ρ 6, ρ 7]) (z := ρ 9) ?_
    simp only [val, q, List.cons.injEq, and_true]
    omega
  · simp only [satTr_cons, satTr_nil, sv_lss, sv_leq, sv_gtr, sv_geq, sv_eql, sv_neq, sv_not, sv_beq, sv_pick, sv_add, sv_sub, sv_fn, sv_eqs, E.den, List.map, K.holds] at hs
    simp only [asrOK_cons, asrOK_nil, if_true, if_false, Bool.false_eq_true, E.den] at ha
    obtain ⟨⟨h10, k10⟩, ⟨h9, k9⟩, ⟨h8, k8⟩, _⟩ := hs
    obtain ⟨a0, a1, _⟩ := ha
    refine dec_one (p := val [ρ 0, ρ 1, ρ 2, ρ 3] < val [ρ 4, ρ 5, ρ 6, ρ 7]) (z := ρ 10) ?_
    simp only [val, q, List.cons.injEq, and_true]
    omega
  · simp only [satTr_cons, satTr_nil, sv_lss, sv_leq, sv_gtr, sv_geq, sv_eql, sv_neq, sv_not, sv_beq, sv_pick, sv_add, sv_sub, sv_fn, sv_eqs, E.den, List.map, K.holds] at hs
    simp only [asrOK_cons, asrOK_nil, if_true, if_false, Bool.false_eq_true, E.den] at ha
    obtain ⟨⟨h11, k11⟩, ⟨h10, k10⟩, ⟨h9, k9⟩, ⟨h8, k8⟩, _⟩ := hs
    obtain ⟨a0, a1, a2, _⟩ := ha
    refine dec_one (p := val [ρ 0, ρ 1, ρ 2, ρ 3] < val [ρ 4, ρ 5, ρ 6, ρ 7]) (z := ρ 11) ?_
    simp only [val, q, List.cons.injEq, and_true]
    omega
  · simp only [satTr_cons, satTr_nil, sv_lss, sv_leq, sv_gtr, sv_geq, sv_eql, sv_neq, sv_not, sv_beq, sv_pick, sv_add, sv_sub, sv_fn, sv_eqs, E.den, List.map, K.holds] at hs
    simp only [asrOK_cons, asrOK_nil, if_true, if_false, Bool.false_eq_true, E.den] at ha
    obtain ⟨⟨h12, k12⟩, ⟨h11, k11⟩, ⟨h10, k10⟩, ⟨h9, k9⟩, ⟨h8, k8⟩, _⟩ := hs
    obtain ⟨a0, a1, a2, a3, _⟩ := ha
    refine dec_one (p := val [ρ 0, ρ 1, ρ 2, ρ 3] < val [ρ 4, ρ 5, ρ 6, ρ 7]) (z := ρ 12) ?_
    simp only [val, q, List.cons.injEq, and_true]
    omega
  · simp only [satTr_cons, satTr_nil, sv_lss, sv_leq, sv_gtr, sv_geq, sv_eql, sv_neq, sv_not, sv_beq, sv_pick, sv_add, sv_sub, sv_fn, sv_eqs, E.den, List.map, K.holds] at hs
    simp only [asrOK_cons, asrOK_nil, if_true, if_false, Bool.false_eq_true, E.den] at ha
    obtain ⟨⟨h11, k11⟩, ⟨h10, k10⟩, ⟨h9, k9⟩, ⟨h8, k8⟩, _⟩ := hs
    obtain ⟨a0, a1, a2, a3, _⟩ := ha
    refine dec_one (p := val [ρ 0, ρ 1, ρ 2, ρ 3] < val [ρ 4, ρ 5, ρ 6, ρ 7]) (z := 0) ?_
    simp only [val, q, List.cons.injEq, and_true]
    omega

/-! ### prime -/
def su_prime : Summ := ⟨[], none, [.slc 4]⟩
def t_prime0 : CT := .leaf ⟨[],
    [], [.c 4891460686036598785, .c 2896914383306846353, .c 13281191951274694749, .c 3486998266802970665]⟩
theorem chk_prime : checkFn Try.prog [] su_prime 400 Try.f9 (fun _ => t_prime0) = true := by kernel_rfl
theorem ok_prime : SummOK Try.prog 9 su_prime (Phi 9) := by
  refine summ_fn (Φ := Phi) 400 (fun _ => t_prime0) Try.func9 tbl_nil chk_prime ?_
  intro al hal l hl ρ hk hs ha
  have hn : su_prime.inKinds.length = 0 := rfl
  have hr : row ρ 0 = [] := rfl
  rw [hn, hr] at hk ⊢
  simp only [su_prime, Summ.inKinds, List.flatMap_cons, List.flatMap_nil, List.replicate, List.cons_append, List.nil_append, List.append_nil, holdsAll, K.holds] at hk
  simp only [t_prime0, CT.leaves, List.cons_append, List.nil_append, List.mem_cons, List.not_mem_nil, or_false] at hl
  subst hl
  simp only [satTr_cons, satTr_nil, sv_lss, sv_leq, sv_gtr, sv_geq, sv_eql, sv_neq, sv_not, sv_beq, sv_pick, sv_add, sv_sub, sv_fn, sv_eqs, E.den, List.map, K.holds] at hs
  simp only [asrOK_cons, asrOK_nil, if_true, if_false, Bool.false_eq_true, E.den] at ha
  clear hs
  clear ha
  change wds 4 q = [4891460686036598785, 2896914383306846353, 13281191951274694749, 3486998266802970665]
  kernel_rfl

/-! ### small -/
def su_small : Summ := ⟨[.ptr 4], none, [.sc .bool]⟩
def t_small0 : CT := .node (.v 4)
  (.leaf ⟨[(4, .bool, .cmp .lss (.v 3) (.c 3486998266802970665))],
    [(.v 4, true)], [.c 1]⟩)
  (.node (.v 5)
  (.node (.v 6)
  (.leaf ⟨[(6, .bool, .cmp .lss (.v 2) (.c 13281191951274694749)),
    (5, .bool, .cmp .eql (.v 3) (.c 3486998266802970665)),
    (4, .bool, .cmp .lss (.v 3) (.c 3486998266802970665))],
    [(.v 6, true), (.v 5, true), (.v 4, false)], [.c 1]⟩)
  (.node (.v 7)
  (.node (.v 8)
  (.leaf ⟨[(8, .bool, .cmp .lss (.v 1) (.c 2896914383306846353)),
    (7, .bool, .cmp .eql (.v 2) (.c 13281191951274694749)),
    (6, .bool, .cmp .lss (.v 2) (.c 13281191951274694749)),
    (5, .bool, .cmp .eql (.v 3) (.c 3486998266802970665)),
    (4, .bool, .cmp .lss (.v 3) (.c 3486998266802970665))],
    [(.v 8, true), (.v 7, true), (.v 6, false), (.v 5, true), (.v 4, false)], [.c 1]⟩)
  (.node (.v 9)
  (.leaf ⟨[(10, .bool, .cmp .lss (.v 0) (.c 4891460686036598785)),
    (9, .bool, .cmp .eql (.v 1) (.c 2896914383306846353)),
    (8, .bool, .cmp .lss (.v 1) (.c 2896914383306846353)),
    (7, .bool, .cmp .eql (.v 2) (.c 13281191951274694749)),
    (6, .bool, .cmp .lss (.v 2) (.c 13281191951274694749)),
    (5, .bool, .cmp .eql (.v 3) (.c 3486998266802970665)),
    (4, .bool, .cmp .lss (.v 3) (.c 3486998266802970665))],
    [(.v 9, true), (.v 8, false), (.v 7, true), (.v 6, false), (.v 5, true), (.v 4, false)], [.v 10]⟩)
  (.leaf ⟨[(9, .bool, .cmp .eql (.v 1) (.c 2896914383306846353)),
    (8, .bool, .cmp .lss (.v 1) (.c 2896914383306846353)),
    (7, .bool, .cmp .eql (.v 2) (.c 13281191951274694749)),
    (6, .bool, .cmp .lss (.v 2) (.c 13281191951274694749)),
    (5, .bool, .cmp .eql (.v 3) (.c 3486998266802970665)),
    (4, .bool, .cmp .lss (.v 3) (.c 3486998266802970665))],
    [(.v 9, false), (.v 8, false), (.v 7, true), (.v 6, false), (.v 5, true), (.v 4, false)], [.c 0]⟩)))
  (.leaf ⟨[(7, .bool, .cmp .eql (.v 2) (.c 13281191951274694749)),
    (6, .bool, .cmp .lss (.v 2) (.c 13281191951274694749)),
    (5, .bool, .cmp .eql (.v 3) (.c 3486998266802970665)),
    (4, .bool, .cmp .lss (.v 3) (.c 3486998266802970665))],
    [(.v 7, false), (.v 6, false), (.v 5, true), (.v 4, false)], [.c 0]⟩)))
  (.leaf ⟨[(5, .bool, .cmp .eql (.v 3) (.c 3486998266802970665)),
    (4, .bool, .cmp .lss (.v 3) (.c 3486998266802970665))],
    [(.v 5, false), (.v 4, false)], [.c 0]⟩))
theorem chk_small : checkFn Try.prog [] su_small 400 Try.f18 (fun _ => t_small0) = true := by kernel_rfl
theorem ok_small : SummOK Try.prog 18 su_small (Phi 18) := by
  refine summ_fn (Φ := Phi) 400 (fun _ => t_small0) Try.func18 tbl_nil chk_small ?_
  intro al hal l hl ρ hk hs ha
  have hn : su_small.inKinds.length = 4 := rfl
  have hr : row ρ 4 = [ρ 0, ρ 1, ρ 2, ρ 3] := rfl
  rw [hn, hr] at hk ⊢
  simp only [su_small, Summ.inKinds, List.flatMap_cons, List.flatMap_nil, List.replicate, List.cons_append, List.nil_append, List.append_nil, holdsAll, K.holds] at hk
  obtain ⟨b0, b1, b2, b3, _⟩ := hk
  simp only [t_small0, CT.leaves, List.cons_append, List.nil_append, List.mem_cons, List.not_mem_nil, or_false] at hl
  rcases hl with rfl | rfl | rfl | rfl | rfl | rfl | rfl
  · simp only [satTr_cons, satTr_nil, sv_lss, sv_leq, sv_gtr, sv_geq, sv_eql, sv_neq, sv_not, sv_beq, sv_pick, sv_add, sv_sub, sv_fn, sv_eqs, E.den, List.map, K.holds] at hs
    simp only [asrOK_cons, asrOK_nil, if_true, if_false, Bool.false_eq_true, E.den] at ha
    obtain ⟨⟨h4, k4⟩, _⟩ := hs
    obtain ⟨a0, _⟩ := ha
    refine dec_one (p := val [ρ 0, ρ 1, ρ 2, ρ 3] < q) (z := 1) ?_
    simp only [val, q, List.cons.injEq, and_true]
    omega
  · simp only [satTr_cons, satTr_nil, sv_lss, sv_leq, sv_gtr, sv_geq, sv_eql, sv_neq, sv_not, sv_beq, sv_pick, sv_add, sv_sub, sv_fn, sv_eqs, E.den, List.map, K.holds] at hs
    simp only [asrOK_cons, asrOK_nil, if_true, if_false, Bool.false_eq_true, E.den] at ha
    obtain ⟨⟨h6, k6⟩, ⟨h5, k5⟩, ⟨h4, k4⟩, _⟩ := hs
    obtain ⟨a0, a1, a2, _⟩ := ha
    refine dec_one (p := val [ρ 0, ρ 1, ρ 2, ρ 3] < q) (z := 1) ?_
    simp only [val, q, List.cons.injEq, and_true]
    omega
  · simp only [satTr_cons, satTr_nil, sv_lss, sv_leq, sv_gtr, sv_geq, sv_eql, sv_neq, sv_not, sv_beq, sv_pick, sv_add, sv_sub, sv_fn, sv_eqs, E.den, List.map, K.holds] at hs
    simp only [asrOK_cons, asrOK_nil, if_true, if_false, Bool.false_eq_true, E.den] at ha
    obtain ⟨⟨h8, k8⟩, ⟨h7, k7⟩, ⟨h6, k6⟩, ⟨h5, k5⟩, ⟨h4, k4⟩, _⟩ := hs
    obtain ⟨a0, a1, a2, a3, a4, _⟩ := ha
    refine dec_one (p := val [ρ 0, ρ 1, ρ 2, ρ 3] < q) (z := 1) ?_
    simp only [val, q, List.cons.injEq, and_true]
    omega
  · simp only [satTr_cons, satTr_nil, sv_lss, sv_leq, sv_gtr, sv_geq, sv_eql, sv_neq, sv_not, sv_beq, sv_pick, sv_add, sv_sub, sv_fn, sv_eqs, E.den, List.map, K.holds] at hs
    simp only [asrOK_cons, asrOK_nil, if_true, if_false, Bool.false_eq_true, E.den] at ha
    obtain ⟨⟨h10, k10⟩, ⟨h9, k9⟩, ⟨h8, k8⟩, ⟨h7, k7⟩, ⟨h6, k6⟩, ⟨h5, k5⟩, ⟨h4, k4⟩, _⟩ := hs
    obtain ⟨a0, a1, a2, a3, a4, a5, _⟩ := ha
    refine dec_one (p := val [ρ 0, ρ 1, ρ 2, ρ 3] < q) (z := ρ 10) ?_
    simp only [val, q, List.cons.injEq, and_true]
    omega
  · simp only [satTr_cons, satTr_nil, sv_lss, sv_leq, sv_gtr, sv_geq, sv_eql, sv_neq, sv_not, sv_beq, sv_pick, sv_add, sv_sub, sv_fn, sv_eqs, E.den, List.map, K.holds] at hs
    simp only [asrOK_cons, asrOK_nil, if_true, if_false, Bool.false_eq_true, E.den] at ha
    obtain ⟨⟨h9, k9⟩, ⟨h8, k8⟩, ⟨h7, k7⟩, ⟨h6, k6⟩, ⟨h5, k5⟩, ⟨h4, k4⟩, _⟩ := hs
    obtain ⟨a0, a1, a2, a3, a4, a5, _⟩ := ha
    refine dec_one (p := val [ρ 0, ρ 1, ρ 2, ρ 3] < q) (z := 0) ?_
    simp only [val, q, List.cons.injEq, and_true]
    omega
  · simp only [satTr_cons, satTr_nil, sv_lss, sv_leq, sv_gtr, sv_geq, sv_eql, sv_neq, sv_not, sv_beq, sv_pick, sv_add, sv_sub, sv_fn, sv_eqs, E.den, List.map, K.holds] at hs
    simp only [asrOK_cons, asrOK_nil, if_true, if_false, Bool.false_eq_true, E.den] at ha
    obtain ⟨⟨h7, k7⟩, ⟨h6, k6⟩, ⟨h5, k5⟩, ⟨h4, k4⟩, _⟩ := hs
    obtain ⟨a0, a1, a2, a3, _⟩ := ha
    refine dec_one (p := val [ρ 0, ρ 1, ρ 2, ρ 3] < q) (z := 0) ?_
    simp only [val, q, List.cons.injEq, and_true]
    omega
  · simp only [satTr_cons, satTr_nil, sv_lss, sv_leq, sv_gtr, sv_geq, sv_eql, sv_neq, sv_not, sv_beq, sv_pick, sv_add, sv_sub, sv_fn, sv_eqs, E.den, List.map, K.holds] at hs
    simp only [asrOK_cons, asrOK_nil, if_true, if_false, Bool.false_eq_true, E.den] at ha
    obtain ⟨⟨h5, k5⟩, ⟨h4, k4⟩, _⟩ := hs
    obtain ⟨a0, a1, _⟩ := ha
    refine dec_one (p := val [ρ 0, ρ 1, ρ 2, ρ 3] < q) (z := 0) ?_
    simp only [val, q, List.cons.injEq, and_true]
    omega

/-! ### add -/
def su_add : Summ := ⟨[.ptr 4, .ptr 4, .ptr 4], (some 0), [.arg 0]⟩
def t_add0 : CT := .leaf ⟨[(33, .i .u64, .pick (.v 21) (.v 28) (.v 18)),
    (32, .i .u64, .pick (.v 21) (.v 26) (.v 16)),
    (31, .i .u64, .pick (.v 21) (.v 24) (.v 14)),
    (30, .i .u64, .pick (.v 21) (.v 22) (.v 12)),
    (29, .bit, .fn 19 [.v 18, .c 3486998266802970665, .v 27] 1),
    (28, .i .u64, .fn 19 [.v 18, .c 3486998266802970665, .v 27] 0),
    (27, .bit, .fn 19 [.v 16, .c 13281191951274694749, .v 25] 1),
    (26, .i .u64, .fn 19 [.v 16, .c 13281191951274694749, .v 25] 0),
    (25, .bit, .fn 19 [.v 14, .c 2896914383306846353, .v 23] 1),
    (24, .i .u64, .fn 19 [.v 14, .c 2896914383306846353, .v 23] 0),
    (23, .bit, .fn 19 [.v 12, .c 4891460686036598785, .c 0] 1),
    (22, .i .u64, .fn 19 [.v 12, .c 4891460686036598785, .c 0] 0),
    (21, .bool, .not (.v 20)),
    (20, .bool, .fn 18 [.v 12, .v 14, .v 16, .v 18] 0),
    (19, .bit, .fn 17 [.v 7, .v 11, .v 17] 1),
    (18, .i .u64, .fn 17 [.v 7, .v 11, .v 17] 0),
    (17, .bit, .fn 17 [.v 6, .v 10, .v 15] 1),
    (16, .i .u64, .fn 17 [.v 6, .v 10, .v 15] 0),
    (15, .bit, .fn 17 [.v 5, .v 9, .v 13] 1),
    (14, .i .u64, .fn 17 [.v 5, .v 9, .v 13] 0),
    (13, .bit, .fn 17 [.v 4, .v 8, .c 0] 1),
    (12, .i .u64, .fn 17 [.v 4, .v 8, .c 0] 0)],
    [], [.v 30, .v 31, .v 32, .v 33]⟩
theorem chk_add : checkFn Try.prog [(17, addSub), (19, addSub), (18, su_small)] su_add 400 Try.f14 (fun _ => t_add0) = true := by kernel_rfl
theorem ok_add : SummOK Try.prog 14 su_add (Phi 14) := by
  refine summ_fn (Φ := Phi) 400 (fun _ => t_add0) Try.func14 (tbl_cons ok_add64 (tbl_cons ok_sub64 (tbl_cons ok_small tbl_nil))) chk_add ?_
  intro al hal l hl ρ hk hs ha
  have hn : su_add.inKinds.length = 12 := rfl
  have hr : row ρ 12 = [ρ 0, ρ 1, ρ 2, ρ 3, ρ 4, ρ 5, ρ 6, ρ 7, ρ 8, ρ 9, ρ 10, ρ 11] := rfl
  rw [hn, hr] at hk ⊢
  simp only [su_add, Summ.inKinds, List.flatMap_cons, List.flatMap_nil, List.replicate, List.cons_append, List.nil_append, List.append_nil, holdsAll, K.holds] at hk
  obtain ⟨b0, b1, b2, b3, b4, b5, b6, b7, b8, b9, b10, b11, _⟩ := hk
  simp only [t_add0, CT.leaves, List.cons_append, List.nil_append, List.mem_cons, List.not_mem_nil, or_false] at hl
  subst hl
  simp only [satTr_cons, satTr_nil, sv_lss, sv_leq, sv_gtr, sv_geq, sv_eql, sv_neq, sv_not, sv_beq, sv_pick, sv_add, sv_sub, sv_fn, sv_eqs, E.den, List.map, K.holds] at hs
  simp only [asrOK_cons, asrOK_nil, if_true, if_false, Bool.false_eq_true, E.den] at ha
  obtain ⟨⟨h33, k33⟩, ⟨h32, k32⟩, ⟨h31, k31⟩, ⟨h30, k30⟩, ⟨h29, k29⟩, ⟨h28, k28⟩, ⟨h27, k27⟩, ⟨h26, k26⟩, ⟨h25, k25⟩, ⟨h24, k24⟩, ⟨h23, k23⟩, ⟨h22, k22⟩, ⟨h21, k21⟩, ⟨h20, k20⟩, ⟨h19, k19⟩, ⟨h18, k18⟩, ⟨h17, k17⟩, ⟨h16, k16⟩, ⟨h15, k15⟩, ⟨h14, k14⟩, ⟨h13, k13⟩, ⟨h12, k12⟩, _⟩ := hs
  clear ha
  have r12 : ρ 12 + 18446744073709551616 * ρ 13 = ρ 4 + ρ 8 + 0 := adc h12 h13
  have r14 : ρ 14 + 18446744073709551616 * ρ 15 = ρ 5 + ρ 9 + ρ 13 := adc h14 h15
  have r16 : ρ 16 + 18446744073709551616 * ρ 17 = ρ 6 + ρ 10 + ρ 15 := adc h16 h17
  have r18 : ρ 18 + 18446744073709551616 * ρ 19 = ρ 7 + ρ 11 + ρ 17 := adc h18 h19
  have e20 : ρ 20 = b2i (decide (val [ρ 12, ρ 14, ρ 16, ρ 18] < q)) := h20
  rw [st_dec] at e20
  have r22 : ρ 22 - 18446744073709551616 * ρ 23 = ρ 12 - 4891460686036598785 - 0 := sbb k12 (by decide) (by decide) h22 h23
  have r24 : ρ 24 - 18446744073709551616 * ρ 25 = ρ 14 - 2896914383306846353 - ρ 23 := sbb k14 (by decide) k23 h24 h25
  have r26 : ρ 26 - 18446744073709551616 * ρ 27 = ρ 16 - 13281191951274694749 - ρ 25 := sbb k16 (by decide) k25 h26 h27
  have r28 : ρ 28 - 18446744073709551616 * ρ 29 = ρ 18 - 3486998266802970665 - ρ 27 := sbb k18 (by decide) k27 h28 h29
  change wds 4 (eAdd 4 q (val [ρ 4, ρ 5, ρ 6, ρ 7]) (val [ρ 8, ρ 9, ρ 10, ρ 11])) = [ρ 30, ρ 31, ρ 32, ρ 33]
  refine add_done (S := [ρ 12, ρ 14, ρ 16, ρ 18]) (D := [ρ 22, ρ 24, ρ 26, ρ 28]) (c := ρ 19) (d := ρ 29) (u64s_cons k12 (u64s_cons k14 (u64s_cons k16 (u64s_cons k18 u64s_nil)))) rfl (u64s_cons k22 (u64s_cons k24 (u64s_cons k26 (u64s_cons k28 u64s_nil)))) rfl ?_ h20 h21 ?_ ?_
  · simp only [val, big]; clear e20; omega
  · simp only [val, big, q]; clear e20; omega
  · by_cases hz : ρ 21 = 0
    · left; refine ⟨hz, ?_⟩; simp only [hz, true_and, ne_eq, not_true_eq_false, false_and, or_false] at h30 h31 h32 h33; rw [h30, h31, h32, h33]
    · right; refine ⟨hz, ?_⟩; simp only [hz, false_and, ne_eq, not_false_eq_true, true_and, false_or] at h30 h31 h32 h33; rw [h30, h31, h32, h33]

/-! ### iAdd -/
def su_iAdd : Summ := ⟨[.agg 4, .agg 4], none, [.agg 4]⟩
def t_iAdd0 : CT := .leaf ⟨[(11, .i .u64, .fn 14 [.c 0, .c 0, .c 0, .c 0, .v 0, .v 1, .v 2, .v 3, .v 4, .v 5, .v 6, .v 7] 3),
    (10, .i .u64, .fn 14 [.c 0, .c 0, .c 0, .c 0, .v 0, .v 1, .v 2, .v 3, .v 4, .v 5, .v 6, .v 7] 2),
    (9, .i .u64, .fn 14 [.c 0, .c 0, .c 0, .c 0, .v 0, .v 1, .v 2, .v 3, .v 4, .v 5, .v 6, .v 7] 1),
    (8, .i .u64, .fn 14 [.c 0, .c 0, .c 0, .c 0, .v 0, .v 1, .v 2, .v 3, .v 4, .v 5, .v 6, .v 7] 0)],
    [], [.v 8, .v 9, .v 10, .v 11]⟩
theorem chk_iAdd : checkFn Try.prog [(14, su_add)] su_iAdd 400 Try.f7 (fun _ => t_iAdd0) = true := by kernel_rfl
theorem ok_iAdd : SummOK Try.prog 7 su_iAdd (Phi 7) := by
  refine summ_fn (Φ := Phi) 400 (fun _ => t_iAdd0) Try.func7 (tbl_cons ok_add tbl_nil) chk_iAdd ?_
  intro al hal l hl ρ hk hs ha
  have hn : su_iAdd.inKinds.length = 8 := rfl
  have hr : row ρ 8 = [ρ 0, ρ 1, ρ 2, ρ 3, ρ 4, ρ 5, ρ 6, ρ 7] := rfl
  rw [hn, hr] at hk ⊢
  simp only [su_iAdd, Summ.inKinds, List.flatMap_cons, List.flatMap_nil, List.replicate, List.cons_append, List.nil_append, List.append_nil, holdsAll, K.holds] at hk
  obtain ⟨b0, b1, b2, b3, b4, b5, b6, b7, _⟩ := hk
  simp only [t_iAdd0, CT.leaves, List.cons_append, List.nil_append, List.mem_cons, List.not_mem_nil, or_false] at hl
  subst hl
  simp only [satTr_cons, satTr_nil, sv_lss, sv_leq, sv_gtr, sv_geq, sv_eql, sv_neq, sv_not, sv_beq, sv_pick, sv_add, sv_sub, sv_fn, sv_eqs, E.den, List.map, K.holds] at hs
  simp only [asrOK_cons, asrOK_nil, if_true, if_false, Bool.false_eq_true, E.den] at ha
  obtain ⟨⟨h11, k11⟩, ⟨h10, k10⟩, ⟨h9, k9⟩, ⟨h8, k8⟩, _⟩ := hs
  clear ha
  have g8 : [ρ 8, ρ 9, ρ 10, ρ 11] = wds 4 (eAdd 4 q (val [ρ 0, ρ 1, ρ 2, ρ 3]) (val [ρ 4, ρ 5, ρ 6, ρ 7])) := get4 rfl h8 h9 h10 h11
  exact g8.symm

/-! ### one -/
def su_one : Summ := ⟨[.ptr 4], (some 0), [.arg 0]⟩
def t_one0 : CT := .leaf ⟨[],
    [], [.c 12436184717236109307, .c 3962172157175319849, .c 7381016538464732718, .c 1011752739694698287]⟩
theorem chk_one : checkFn Try.prog [] su_one 400 Try.f16 (fun _ => t_one0) = true := by kernel_rfl
theorem ok_one : SummOK Try.prog 16 su_one (Phi 16) := by
  refine summ_fn (Φ := Phi) 400 (fun _ => t_one0) Try.func16 tbl_nil chk_one ?_
  intro al hal l hl ρ hk hs ha
  have hn : su_one.inKinds.length = 4 := rfl
  have hr : row ρ 4 = [ρ 0, ρ 1, ρ 2, ρ 3] := rfl
  rw [hn, hr] at hk ⊢
  simp only [su_one, Summ.inKinds, List.flatMap_cons, List.flatMap_nil, List.replicate, List.cons_append, List.nil_append, List.append_nil, holdsAll, K.holds] at hk
  obtain ⟨b0, b1, b2, b3, _⟩ := hk
  simp only [t_one0, CT.leaves, List.cons_append, List.nil_append, List.mem_cons, List.not_mem_nil, or_false] at hl
  subst hl
  simp only [satTr_cons, satTr_nil, sv_lss, sv_leq, sv_gtr, sv_geq, sv_eql, sv_neq, sv_not, sv_beq, sv_pick, sv_add, sv_sub, sv_fn, sv_eqs, E.den, List.map, K.holds] at hs
  simp only [asrOK_cons, asrOK_nil, if_true, if_false, Bool.false_eq_true, E.den] at ha
  clear hs
  clear ha
  change wds 4 r = [12436184717236109307, 3962172157175319849, 7381016538464732718, 1011752739694698287]
  kernel_rfl

/-! ### One -/
def su_One : Summ := ⟨[], none, [.agg 4]⟩
def t_One0 : CT := .leaf ⟨[(3, .i .u64, .fn 16 [.c 0, .c 0, .c 0, .c 0] 3),
    (2, .i .u64, .fn 16 [.c 0, .c 0, .c 0, .c 0] 2),
    (1, .i .u64, .fn 16 [.c 0, .c 0, .c 0, .c 0] 1),
    (0, .i .u64, .fn 16 [.c 0, .c 0, .c 0, .c 0] 0)],
    [], [.v 0, .v 1, .v 2, .v 3]⟩
theorem chk_One : checkFn Try.prog [(16, su_one)] su_One 400 Try.f13 (fun _ => t_One0) = true := by kernel_rfl
theorem ok_One : SummOK Try.prog 13 su_One (Phi 13) := by
  refine summ_fn (Φ := Phi) 400 (fun _ => t_One0) Try.func13 (tbl_cons ok_one tbl_nil) chk_One ?_
  intro al hal l hl ρ hk hs ha
  have hn : su_One.inKinds.length = 0 := rfl
  have hr : row ρ 0 = [] := rfl
  rw [hn, hr] at hk ⊢
  simp only [su_One, Summ.inKinds, List.flatMap_cons, List.flatMap_nil, List.replicate, List.cons_append, List.nil_append, List.append_nil, holdsAll, K.holds] at hk
  simp only [t_One0, CT.leaves, List.cons_append, List.nil_append, List.mem_cons, List.not_mem_nil, or_false] at hl
  subst hl
  simp only [satTr_cons, satTr_nil, sv_lss, sv_leq, sv_gtr, sv_geq, sv_eql, sv_neq, sv_not, sv_beq, sv_pick, sv_add, sv_sub, sv_fn, sv_eqs, E.den, List.map, K.holds] at hs
  simp only [asrOK_cons, asrOK_nil, if_true, if_false, Bool.false_eq_true, E.den] at ha
  obtain ⟨⟨h3, k3⟩, ⟨h2, k2⟩, ⟨h1, k1⟩, ⟨h0, k0⟩, _⟩ := hs
  clear ha
  have g0 : [ρ 0, ρ 1, ρ 2, ρ 3] = wds 4 r := get4 rfl h0 h1 h2 h3
  exact g0.symm

/-! ### iOne -/
def su_iOne : Summ := ⟨[], none, [.agg 4]⟩
def t_iOne0 : CT := .leaf ⟨[(3, .i .u64, .fn 13 [] 3),
    (2, .i .u64, .fn 13 [] 2),
    (1, .i .u64, .fn 13 [] 1),
    (0, .i .u64, .fn 13 [] 0)],
    [], [.v 0, .v 1, .v 2, .v 3]⟩
theorem chk_iOne : checkFn Try.prog [(13, su_One)] su_iOne 400 Try.f6 (fun _ => t_iOne0) = true := by kernel_rfl
theorem ok_iOne : SummOK Try.prog 6 su_iOne (Phi 6) := by
  refine summ_fn (Φ := Phi) 400 (fun _ => t_iOne0) Try.func6 (tbl_cons ok_One tbl_nil) chk_iOne ?_
  intro al hal l hl ρ hk hs ha
  have hn : su_iOne.inKinds.length = 0 := rfl
  have hr : row ρ 0 = [] := rfl
  rw [hn, hr] at hk ⊢
  simp only [su_iOne, Summ.inKinds, List.flatMap_cons, List.flatMap_nil, List.replicate, List.cons_append, List.nil_append, List.append_nil, holdsAll, K.holds] at hk
  simp only [t_iOne0, CT.leaves, List.cons_append, List.nil_append, List.mem_cons, List.not_mem_nil, or_false] at hl
  subst hl
  simp only [satTr_cons, satTr_nil, sv_lss, sv_leq, sv_gtr, sv_geq, sv_eql, sv_neq, sv_not, sv_beq, sv_pick, sv_add, sv_sub, sv_fn, sv_eqs, E.den, List.map, K.holds] at hs
  simp only [asrOK_cons, asrOK_nil, if_true, if_false, Bool.false_eq_true, E.den] at ha
  obtain ⟨⟨h3, k3⟩, ⟨h2, k2⟩, ⟨h1, k1⟩, ⟨h0, k0⟩, _⟩ := hs
  clear ha
  have g0 : [ρ 0, ρ 1, ρ 2, ρ 3] = wds 4 r := get4 rfl h0 h1 h2 h3
  exact g0.symm

end Go.Proofs.Ytdjdbacpokclpaa
