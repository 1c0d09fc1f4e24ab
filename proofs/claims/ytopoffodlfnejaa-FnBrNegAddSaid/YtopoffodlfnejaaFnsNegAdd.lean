/- The functions of the seat Ytopoffodlfnejaa, each once: its ways through the text, and what it comes to in numbers. Written by a program (gen.py). -/
import Derived.Test.YtopoffodlfnejaaSymU
import Derived.Test.YtopoffodlfnejaaSymZ
import Derived.Test.YtopoffodlfnejaaRows
set_option linter.unusedVariables false
set_option linter.unusedSimpArgs false
set_option maxRecDepth 4000
namespace Go.Proofs.Ytopoffodlfnejaa
open Go.Sym

def q : Int := 52435875175126190479447740508185965837690552500527637822603658699938581184513
def r : Int := 10920338887063814464675503992315976177888879664585288394250266608035967270910

def Phi : Nat → List Int → List Int
  | 9 => lessF 4
  | 13 => sameF 4
  | 10 => primeF 4 q
  | 30 => plusF 4
  | 29 => lessenF 4
  | 27 => addWF 4
  | 17 => subWF 4
  | 15 => setF 4 1
  | 21 => timesF 4
  | 38 => setF 4 0
  | 44 => setF 4 r
  | 25 => zeroF
  | 26 => isF 4 r
  | 41 => smallF q
  | 31 => eaddF 4 q
  | 32 => esubF 4 q
  | 42 => edblF 4 q
  | 28 => enegF 4 q
  | 37 => setF 4 r
  | 33 => mul5F 4 q
  | 24 => setF 4 r
  | 11 => zeroF
  | 12 => isF 4 r
  | 18 => aaddF 4 q
  | 19 => asubF 4 q
  | 16 => anegF 4 q
  | 20 => mul5F 4 q
  | 4 => fun _ => [1]
  | 5 => fun _ => [1]
  | 6 => fun _ => [1]
  | 8 => fun _ => [1]
  | 3 => fun _ => [1]
  | 40 => add64F
  | 39 => sub64F
  | 14 => shiftF 4
  | _ => fun _ => []

theorem ok_add64 : SummOK Try.prog 40 addSub (Phi 40) := summ_add64 Try.func40 (by kernel_rfl) (by kernel_rfl) (by kernel_rfl) (by kernel_rfl)

theorem ok_sub64 : SummOK Try.prog 39 addSub (Phi 39) := summ_sub64 Try.func39 (by kernel_rfl) (by kernel_rfl) (by kernel_rfl) (by kernel_rfl)

/-! ### less -/
def su_less : Summ := ⟨[.slc 4, .slc 4], none, [.sc .bool]⟩
def t_less0 : CT := .node (.v 8)
  (.leaf ⟨[(9, .bool, .cmp .lss (.v 3) (.v 7)),
    (8, .bool, .cmp .neq (.v 3) (.v 7))],
    [(.v 8, true)], [.v 9]⟩)
  (.node (.v 9)
  (.leaf ⟨[(10, .bool, .cmp .lss (.v 2) (.v 6)),
    (9, .bool, .cmp .neq (.v 2) (.v 6)),
    (8, .bool, .cmp .neq (.v 3) (.v 7))],
    [(.v 9, true), (.v 8, false)], [.v 10]⟩)
  (.node (.v 10)
  (.leaf ⟨[(11, .bool, .cmp .lss (.v 1) (.v 5)),
    (10, .bool, .cmp .neq (.v 1) (.v 5)),
    (9, .bool, .cmp .neq (.v 2) (.v 6)),
    (8, .bool, .cmp .neq (.v 3) (.v 7))],
    [(.v 10, true), (.v 9, false), (.v 8, false)], [.v 11]⟩)
  (.node (.v 11)
  (.leaf ⟨[(12, .bool, .cmp .lss (.v 0) (.v 4)),
    (11, .bool, .cmp .neq (.v 0) (.v 4)),
    (10, .bool, .cmp .neq (.v 1) (.v 5)),
    (9, .bool, .cmp .neq (.v 2) (.v 6)),
    (8, .bool, .cmp .neq (.v 3) (.v 7))],
    [(.v 11, true), (.v 10, false), (.v 9, false), (.v 8, false)], [.v 12]⟩)
  (.leaf ⟨[(11, .bool, .cmp .neq (.v 0) (.v 4)),
    (10, .bool, .cmp .neq (.v 1) (.v 5)),
    (9, .bool, .cmp .neq (.v 2) (.v 6)),
    (8, .bool, .cmp .neq (.v 3) (.v 7))],
    [(.v 11, false), (.v 10, false), (.v 9, false), (.v 8, false)], [.c 0]⟩))))
theorem chk_less : checkFn Try.prog [] su_less 400 Try.f9 (fun _ => t_less0) = true := by kernel_rfl
theorem ok_less : SummOK Try.prog 9 su_less (Phi 9) := by
  refine summ_fn (Φ := Phi) 400 (fun _ => t_less0) Try.func9 tbl_nil chk_less ?_
  intro al hal l hl ρ hk hs ha
  have hn : su_less.inKinds.length = 8 := rfl
  have hr : row ρ 8 = [ρ 0, ρ 1, ρ 2, ρ 3, ρ 4, ρ 5, ρ 6, ρ 7] := rfl
  rw [hn, hr] at hk ⊢
  simp only [su_less, Summ.inKinds, List.flatMap_cons, List.flatMap_nil, List.replicate, List.cons_append, List.nil_append, List.append_nil, holdsAll, K.holds] at hk
  obtain ⟨b0, b1, b2, b3, b4, b5, b6, b7, _⟩ := hk
  simp only [t_less0, CT.leaves, List.cons_append, List.nil_append, List.mem_cons, List.not_mem_nil, or_false] at hl
  rcases hl with rfl | rfl | rfl | rfl | rfl
  · simp only [satTr_cons, satTr_nil, sv_lss, sv_leq, sv_gtr, sv_geq, sv_eql, sv_neq, sv_not, sv_beq, sv_pick, sv_add, sv_sub, sv_fn, sv_eqs, E.den, List.map, K.holds] at hs
    simp only [asrOK_cons, asrOK_nil, if_true, if_false, Bool.false_eq_true, E.den] at ha
    obtain ⟨⟨h9, k9⟩, ⟨h8, k8⟩, _⟩ := hs
    obtain ⟨a0, _⟩ := ha
    refine dec_one (p := val [ρ 0, ρ 1, ρ 2, ρ 3] < val [ρ 4, ρ 5, ρ 6, ρ 7]) (z := ρ 9) ?_
    simp only [val, q, List.cons.injEq, and_true]
    omega
  · simp only [satTr_cons, satTr_nil, sv_lss, sv_leq, sv_gtr, sv_geq, sv_eql, sv_neq, sv_not, sv_beq, sv_pick, sv_add, sv_sub, sv_fn, sv_eqs, E.den, List.map, K.holds] at hs
    simp only [asrOK_cons, asrOK_nil, if_true, if_false, Bool.false_eq_true, E.den] at ha
    obtain ⟨⟨h10, k10⟩, ⟨h9, k9⟩, ⟨h8, k8⟩, _⟩ := hs
    obtain ⟨a0, a1, _⟩ := ha
    refine dec_one (p := val [ρ 0, ρ 1, ρ 2, ρ 3] < val [ρ 4, ρ 5, ρ 6, ρ 7]) (z := ρ 10) ?_
    simp only [val, q, List.cons.injEq, and_true]
    omega
  · simp only [satTr_cons, satTr_nil, sv_lss, sv_leq, sv_gtr, sv_geq, sv_eql, sv_neq, sv_not, sv_beq, sv_pick, sv_add, sv_sub, sv_fn, sv_eqs, E.den, List.map, K.holds] at hs
    simp only [asrOK_cons, asrOK_nil, if_true, if_false, Bool.false_eq_true, E.den] at ha
    obtain ⟨⟨h11, k11⟩, ⟨h10, k10⟩, ⟨h9, k9⟩, ⟨h8, k8⟩, _⟩ := hs
    obtain ⟨a0, a1, a2, _⟩ := ha
    refine dec_one (p := val [ρ 0, ρ 1, ρ 2, ρ 3] < val [ρ 4, ρ 5, ρ 6, ρ 7]) (z := ρ 11) ?_
    simp only [val, q, List.cons.injEq, and_true]
    omega
  · simp only [satTr_cons, satTr_nil, sv_lss, sv_leq, sv_gtr, sv_geq, sv_eql, sv_neq, sv_not, sv_beq, sv_pick, sv_add, sv_sub, sv_fn, sv_eqs, E.den, List.map, K.holds] at hs
    simp only [asrOK_cons, asrOK_nil, if_true, if_false, Bool.false_eq_true, E.den] at ha
    obtain ⟨⟨h12, k12⟩, ⟨h11, k11⟩, ⟨h10, k10⟩, ⟨h9, k9⟩, ⟨h8, k8⟩, _⟩ := hs
    obtain ⟨a0, a1, a2, a3, _⟩ := ha
    refine dec_one (p := val [ρ 0, ρ 1, ρ 2, ρ 3] < val [ρ 4, ρ 5, ρ 6, ρ 7]) (z := ρ 12) ?_
    simp only [val, q, List.cons.injEq, and_true]
    omega
  · simp only [satTr_cons, satTr_nil, sv_lss, sv_leq, sv_gtr, sv_geq, sv_eql, sv_neq, sv_not, sv_beq, sv_pick, sv_add, sv_sub, sv_fn, sv_eqs, E.den, List.map, K.holds] at hs
    simp only [asrOK_cons, asrOK_nil, if_true, if_false, Bool.false_eq_true, E.den] at ha
    obtain ⟨⟨h11, k11⟩, ⟨h10, k10⟩, ⟨h9, k9⟩, ⟨h8, k8⟩, _⟩ := hs
    obtain ⟨a0, a1, a2, a3, _⟩ := ha
    refine dec_one (p := val [ρ 0, ρ 1, ρ 2, ρ 3] < val [ρ 4, ρ 5, ρ 6, ρ 7]) (z := 0) ?_
    simp only [val, q, List.cons.injEq, and_true]
    omega

/-! ### prime -/
def su_prime : Summ := ⟨[], none, [.slc 4]⟩
def t_prime0 : CT := .leaf ⟨[],
    [], [.c 18446744069414584321, .c 6034159408538082302, .c 3691218898639771653, .c 8353516859464449352]⟩
theorem chk_prime : checkFn Try.prog [] su_prime 400 Try.f10 (fun _ => t_prime0) = true := by kernel_rfl
theorem ok_prime : SummOK Try.prog 10 su_prime (Phi 10) := by
  refine summ_fn (Φ := Phi) 400 (fun _ => t_prime0) Try.func10 tbl_nil chk_prime ?_
  intro al hal l hl ρ hk hs ha
  have hn : su_prime.inKinds.length = 0 := rfl
  have hr : row ρ 0 = [] := rfl
  rw [hn, hr] at hk ⊢
  simp only [su_prime, Summ.inKinds, List.flatMap_cons, List.flatMap_nil, List.replicate, List.cons_append, List.nil_append, List.append_nil, holdsAll, K.holds] at hk
  simp only [t_prime0, CT.leaves, List.cons_append, List.nil_append, List.mem_cons, List.not_mem_nil, or_false] at hl
  subst hl
  simp only [satTr_cons, satTr_nil, sv_lss, sv_leq, sv_gtr, sv_geq, sv_eql, sv_neq, sv_not, sv_beq, sv_pick, sv_add, sv_sub, sv_fn, sv_eqs, E.den, List.map, K.holds] at hs
  simp only [asrOK_cons, asrOK_nil, if_true, if_false, Bool.false_eq_true, E.den] at ha
  clear hs
  clear ha
  change wds 4 q = [18446744069414584321, 6034159408538082302, 3691218898639771653, 8353516859464449352]
  kernel_rfl

/-! ### zero -/
def su_zero : Summ := ⟨[.ptr 4], (some 0), [.arg 0]⟩
def t_zero0 : CT := .leaf ⟨[],
    [], [.c 0, .c 0, .c 0, .c 0]⟩
theorem chk_zero : checkFn Try.prog [] su_zero 400 Try.f38 (fun _ => t_zero0) = true := by kernel_rfl
theorem ok_zero : SummOK Try.prog 38 su_zero (Phi 38) := by
  refine summ_fn (Φ := Phi) 400 (fun _ => t_zero0) Try.func38 tbl_nil chk_zero ?_
  intro al hal l hl ρ hk hs ha
  have hn : su_zero.inKinds.length = 4 := rfl
  have hr : row ρ 4 = [ρ 0, ρ 1, ρ 2, ρ 3] := rfl
  rw [hn, hr] at hk ⊢
  simp only [su_zero, Summ.inKinds, List.flatMap_cons, List.flatMap_nil, List.replicate, List.cons_append, List.nil_append, List.append_nil, holdsAll, K.holds] at hk
  obtain ⟨b0, b1, b2, b3, _⟩ := hk
  simp only [t_zero0, CT.leaves, List.cons_append, List.nil_append, List.mem_cons, List.not_mem_nil, or_false] at hl
  subst hl
  simp only [satTr_cons, satTr_nil, sv_lss, sv_leq, sv_gtr, sv_geq, sv_eql, sv_neq, sv_not, sv_beq, sv_pick, sv_add, sv_sub, sv_fn, sv_eqs, E.den, List.map, K.holds] at hs
  simp only [asrOK_cons, asrOK_nil, if_true, if_false, Bool.false_eq_true, E.den] at ha
  clear hs
  clear ha
  change wds 4 0 = [0, 0, 0, 0]
  kernel_rfl

/-! ### isZero -/
def su_isZero : Summ := ⟨[.ptr 4], none, [.sc .bool]⟩
def t_isZero0 : CT := .leaf ⟨[(7, .bool, .cmp .eql (.v 6) (.c 0)),
    (6, .i .u64, .bin .or .u64 (.v 5) (.v 0)),
    (5, .i .u64, .bin .or .u64 (.v 4) (.v 1)),
    (4, .i .u64, .bin .or .u64 (.v 3) (.v 2))],
    [], [.v 7]⟩
theorem chk_isZero : checkFn Try.prog [] su_isZero 400 Try.f25 (fun _ => t_isZero0) = true := by kernel_rfl
theorem ok_isZero : SummOK Try.prog 25 su_isZero (Phi 25) := by
  refine summ_fn (Φ := Phi) 400 (fun _ => t_isZero0) Try.func25 tbl_nil chk_isZero ?_
  intro al hal l hl ρ hk hs ha
  have hn : su_isZero.inKinds.length = 4 := rfl
  have hr : row ρ 4 = [ρ 0, ρ 1, ρ 2, ρ 3] := rfl
  rw [hn, hr] at hk ⊢
  simp only [su_isZero, Summ.inKinds, List.flatMap_cons, List.flatMap_nil, List.replicate, List.cons_append, List.nil_append, List.append_nil, holdsAll, K.holds] at hk
  obtain ⟨b0, b1, b2, b3, _⟩ := hk
  simp only [t_isZero0, CT.leaves, List.cons_append, List.nil_append, List.mem_cons, List.not_mem_nil, or_false] at hl
  subst hl
  simp only [satTr_cons, satTr_nil, sv_lss, sv_leq, sv_gtr, sv_geq, sv_eql, sv_neq, sv_not, sv_beq, sv_pick, sv_add, sv_sub, sv_fn, sv_eqs, E.den, List.map, K.holds] at hs
  simp only [asrOK_cons, asrOK_nil, if_true, if_false, Bool.false_eq_true, E.den] at ha
  obtain ⟨⟨h7, k7⟩, ⟨h6, k6⟩, ⟨h5, k5⟩, ⟨h4, k4⟩, _⟩ := hs
  clear ha
  have z4 : ρ 4 = 0 ↔ ρ 3 = 0 ∧ ρ 2 = 0 := or_zero b3 b2 h4
  have z5 : ρ 5 = 0 ↔ ρ 4 = 0 ∧ ρ 1 = 0 := or_zero k4 b1 h5
  have z6 : ρ 6 = 0 ↔ ρ 5 = 0 ∧ ρ 0 = 0 := or_zero k5 b0 h6
  refine dec_one (p := val [ρ 0, ρ 1, ρ 2, ρ 3] = 0) (z := ρ 7) ?_
  simp only [val, q, List.cons.injEq, and_true]
  clear h4 h5 h6
  omega

/-! ### neg -/
def su_neg : Summ := ⟨[.ptr 4, .ptr 4], (some 0), [.arg 0]⟩
def t_neg0 : CT := .node (.v 8)
  (.leaf ⟨[(12, .i .u64, .fn 38 [.v 0, .v 1, .v 2, .v 3] 3),
    (11, .i .u64, .fn 38 [.v 0, .v 1, .v 2, .v 3] 2),
    (10, .i .u64, .fn 38 [.v 0, .v 1, .v 2, .v 3] 1),
    (9, .i .u64, .fn 38 [.v 0, .v 1, .v 2, .v 3] 0),
    (8, .bool, .fn 25 [.v 4, .v 5, .v 6, .v 7] 0)],
    [(.v 8, true)], [.v 9, .v 10, .v 11, .v 12]⟩)
  (.leaf ⟨[(16, .bit, .fn 39 [.c 8353516859464449352, .v 7, .v 14] 1),
    (15, .i .u64, .fn 39 [.c 8353516859464449352, .v 7, .v 14] 0),
    (14, .bit, .fn 39 [.c 3691218898639771653, .v 6, .v 12] 1),
    (13, .i .u64, .fn 39 [.c 3691218898639771653, .v 6, .v 12] 0),
    (12, .bit, .fn 39 [.c 6034159408538082302, .v 5, .v 10] 1),
    (11, .i .u64, .fn 39 [.c 6034159408538082302, .v 5, .v 10] 0),
    (10, .bit, .fn 39 [.c 18446744069414584321, .v 4, .c 0] 1),
    (9, .i .u64, .fn 39 [.c 18446744069414584321, .v 4, .c 0] 0),
    (8, .bool, .fn 25 [.v 4, .v 5, .v 6, .v 7] 0)],
    [(.v 8, false)], [.v 9, .v 11, .v 13, .v 15]⟩)
def t_neg1 : CT := .node (.v 8)
  (.leaf ⟨[(12, .i .u64, .fn 38 [.v 4, .v 5, .v 6, .v 7] 3),
    (11, .i .u64, .fn 38 [.v 4, .v 5, .v 6, .v 7] 2),
    (10, .i .u64, .fn 38 [.v 4, .v 5, .v 6, .v 7] 1),
    (9, .i .u64, .fn 38 [.v 4, .v 5, .v 6, .v 7] 0),
    (8, .bool, .fn 25 [.v 4, .v 5, .v 6, .v 7] 0)],
    [(.v 8, true)], [.v 9, .v 10, .v 11, .v 12]⟩)
  (.leaf ⟨[(16, .bit, .fn 39 [.c 8353516859464449352, .v 7, .v 14] 1),
    (15, .i .u64, .fn 39 [.c 8353516859464449352, .v 7, .v 14] 0),
    (14, .bit, .fn 39 [.c 3691218898639771653, .v 6, .v 12] 1),
    (13, .i .u64, .fn 39 [.c 3691218898639771653, .v 6, .v 12] 0),
    (12, .bit, .fn 39 [.c 6034159408538082302, .v 5, .v 10] 1),
    (11, .i .u64, .fn 39 [.c 6034159408538082302, .v 5, .v 10] 0),
    (10, .bit, .fn 39 [.c 18446744069414584321, .v 4, .c 0] 1),
    (9, .i .u64, .fn 39 [.c 18446744069414584321, .v 4, .c 0] 0),
    (8, .bool, .fn 25 [.v 4, .v 5, .v 6, .v 7] 0)],
    [(.v 8, false)], [.v 9, .v 11, .v 13, .v 15]⟩)
theorem chk_neg : checkFn Try.prog [(39, addSub), (25, su_isZero), (38, su_zero)] su_neg 400 Try.f28 (fun al => match al with | none => t_neg0 | some _ => t_neg1) = true := by kernel_rfl
theorem ok_neg : SummOK Try.prog 28 su_neg (Phi 28) := by
  refine summ_fn (Φ := Phi) 400 (fun al => match al with | none => t_neg0 | some _ => t_neg1) Try.func28 (tbl_cons ok_sub64 (tbl_cons ok_isZero (tbl_cons ok_zero tbl_nil))) chk_neg ?_
  intro al hal l hl ρ hk hs ha
  have hn : su_neg.inKinds.length = 8 := rfl
  have hr : row ρ 8 = [ρ 0, ρ 1, ρ 2, ρ 3, ρ 4, ρ 5, ρ 6, ρ 7] := rfl
  rw [hn, hr] at hk ⊢
  simp only [su_neg, Summ.inKinds, List.flatMap_cons, List.flatMap_nil, List.replicate, List.cons_append, List.nil_append, List.append_nil, holdsAll, K.holds] at hk
  obtain ⟨b0, b1, b2, b3, b4, b5, b6, b7, _⟩ := hk
  cases al with
  | none =>
    simp only [t_neg0, CT.leaves, List.cons_append, List.nil_append, List.mem_cons, List.not_mem_nil, or_false] at hl
    rcases hl with rfl | rfl
    · simp only [satTr_cons, satTr_nil, sv_lss, sv_leq, sv_gtr, sv_geq, sv_eql, sv_neq, sv_not, sv_beq, sv_pick, sv_add, sv_sub, sv_fn, sv_eqs, E.den, List.map, K.holds] at hs
      simp only [asrOK_cons, asrOK_nil, if_true, if_false, Bool.false_eq_true, E.den] at ha
      obtain ⟨⟨h12, k12⟩, ⟨h11, k11⟩, ⟨h10, k10⟩, ⟨h9, k9⟩, ⟨h8, k8⟩, _⟩ := hs
      obtain ⟨a0, _⟩ := ha
      have e8 : ρ 8 = b2i (decide (val [ρ 4, ρ 5, ρ 6, ρ 7] = 0)) := h8
      rw [st_dec] at e8
      have g9 : [ρ 9, ρ 10, ρ 11, ρ 12] = wds 4 0 := get4 rfl h9 h10 h11 h12
      change wds 4 (eNeg q (val [ρ 4, ρ 5, ρ 6, ρ 7])) = [ρ 9, ρ 10, ρ 11, ρ 12]
      have hz : val [ρ 4, ρ 5, ρ 6, ρ 7] = 0 := by omega
      rw [g9, eNeg, if_pos hz]
    · simp only [satTr_cons, satTr_nil, sv_lss, sv_leq, sv_gtr, sv_geq, sv_eql, sv_neq, sv_not, sv_beq, sv_pick, sv_add, sv_sub, sv_fn, sv_eqs, E.den, List.map, K.holds] at hs
      simp only [asrOK_cons, asrOK_nil, if_true, if_false, Bool.false_eq_true, E.den] at ha
      obtain ⟨⟨h16, k16⟩, ⟨h15, k15⟩, ⟨h14, k14⟩, ⟨h13, k13⟩, ⟨h12, k12⟩, ⟨h11, k11⟩, ⟨h10, k10⟩, ⟨h9, k9⟩, ⟨h8, k8⟩, _⟩ := hs
      obtain ⟨a0, _⟩ := ha
      have e8 : ρ 8 = b2i (decide (val [ρ 4, ρ 5, ρ 6, ρ 7] = 0)) := h8
      rw [st_dec] at e8
      have r9 : ρ 9 - 18446744073709551616 * ρ 10 = 18446744069414584321 - ρ 4 - 0 := sbb (by decide) b4 (by decide) h9 h10
      have r11 : ρ 11 - 18446744073709551616 * ρ 12 = 6034159408538082302 - ρ 5 - ρ 10 := sbb (by decide) b5 k10 h11 h12
      have r13 : ρ 13 - 18446744073709551616 * ρ 14 = 3691218898639771653 - ρ 6 - ρ 12 := sbb (by decide) b6 k12 h13 h14
      have r15 : ρ 15 - 18446744073709551616 * ρ 16 = 8353516859464449352 - ρ 7 - ρ 14 := sbb (by decide) b7 k14 h15 h16
      change wds 4 (eNeg q (val [ρ 4, ρ 5, ρ 6, ρ 7])) = [ρ 9, ρ 11, ρ 13, ρ 15]
      have hz : ¬ val [ρ 4, ρ 5, ρ 6, ρ 7] = 0 := by omega
      rw [eNeg, if_neg hz]
      clear e8
      refine wds_eq (u64s_cons k9 (u64s_cons k11 (u64s_cons k13 (u64s_cons k15 u64s_nil)))) rfl (ρ 16) ?_
      simp only [val, big, q]
      omega
  | some j =>
    simp only [t_neg1, CT.leaves, List.cons_append, List.nil_append, List.mem_cons, List.not_mem_nil, or_false] at hl
    rcases hl with rfl | rfl
    · simp only [satTr_cons, satTr_nil, sv_lss, sv_leq, sv_gtr, sv_geq, sv_eql, sv_neq, sv_not, sv_beq, sv_pick, sv_add, sv_sub, sv_fn, sv_eqs, E.den, List.map, K.holds] at hs
      simp only [asrOK_cons, asrOK_nil, if_true, if_false, Bool.false_eq_true, E.den] at ha
      obtain ⟨⟨h12, k12⟩, ⟨h11, k11⟩, ⟨h10, k10⟩, ⟨h9, k9⟩, ⟨h8, k8⟩, _⟩ := hs
      obtain ⟨a0, _⟩ := ha
      have e8 : ρ 8 = b2i (decide (val [ρ 4, ρ 5, ρ 6, ρ 7] = 0)) := h8
      rw [st_dec] at e8
      have g9 : [ρ 9, ρ 10, ρ 11, ρ 12] = wds 4 0 := get4 rfl h9 h10 h11 h12
      change wds 4 (eNeg q (val [ρ 4, ρ 5, ρ 6, ρ 7])) = [ρ 9, ρ 10, ρ 11, ρ 12]
      have hz : val [ρ 4, ρ 5, ρ 6, ρ 7] = 0 := by omega
      rw [g9, eNeg, if_pos hz]
    · simp only [satTr_cons, satTr_nil, sv_lss, sv_leq, sv_gtr, sv_geq, sv_eql, sv_neq, sv_not, sv_beq, sv_pick, sv_add, sv_sub, sv_fn, sv_eqs, E.den, List.map, K.holds] at hs
      simp only [asrOK_cons, asrOK_nil, if_true, if_false, Bool.false_eq_true, E.den] at ha
      obtain ⟨⟨h16, k16⟩, ⟨h15, k15⟩, ⟨h14, k14⟩, ⟨h13, k13⟩, ⟨h12, k12⟩, ⟨h11, k11⟩, ⟨h10, k10⟩, ⟨h9, k9⟩, ⟨h8, k8⟩, _⟩ := hs
      obtain ⟨a0, _⟩ := ha
      have e8 : ρ 8 = b2i (decide (val [ρ 4, ρ 5, ρ 6, ρ 7] = 0)) := h8
      rw [st_dec] at e8
      have r9 : ρ 9 - 18446744073709551616 * ρ 10 = 18446744069414584321 - ρ 4 - 0 := sbb (by decide) b4 (by decide) h9 h10
      have r11 : ρ 11 - 18446744073709551616 * ρ 12 = 6034159408538082302 - ρ 5 - ρ 10 := sbb (by decide) b5 k10 h11 h12
      have r13 : ρ 13 - 18446744073709551616 * ρ 14 = 3691218898639771653 - ρ 6 - ρ 12 := sbb (by decide) b6 k12 h13 h14
      have r15 : ρ 15 - 18446744073709551616 * ρ 16 = 8353516859464449352 - ρ 7 - ρ 14 := sbb (by decide) b7 k14 h15 h16
      change wds 4 (eNeg q (val [ρ 4, ρ 5, ρ 6, ρ 7])) = [ρ 9, ρ 11, ρ 13, ρ 15]
      have hz : ¬ val [ρ 4, ρ 5, ρ 6, ρ 7] = 0 := by omega
      rw [eNeg, if_neg hz]
      clear e8
      refine wds_eq (u64s_cons k9 (u64s_cons k11 (u64s_cons k13 (u64s_cons k15 u64s_nil)))) rfl (ρ 16) ?_
      simp only [val, big, q]
      omega

/-! ### small -/
def su_small : Summ := ⟨[.ptr 4], none, [.sc .bool]⟩
def t_small0 : CT := .node (.v 4)
  (.leaf ⟨[(4, .bool, .cmp .lss (.v 3) (.c 8353516859464449352))],
    [(.v 4, true)], [.c 1]⟩)
  (.node (.v 5)
  (.node (.v 6)
  (.leaf ⟨[(6, .bool, .cmp .lss (.v 2) (.c 3691218898639771653)),
    (5, .bool, .cmp .eql (.v 3) (.c 8353516859464449352)),
    (4, .bool, .cmp .lss (.v 3) (.c 8353516859464449352))],
    [(.v 6, true), (.v 5, true), (.v 4, false)], [.c 1]⟩)
  (.node (.v 7)
  (.node (.v 8)
  (.leaf ⟨[(8, .bool, .cmp .lss (.v 1) (.c 6034159408538082302)),
    (7, .bool, .cmp .eql (.v 2) (.c 3691218898639771653)),
    (6, .bool, .cmp .lss (.v 2) (.c 3691218898639771653)),
    (5, .bool, .cmp .eql (.v 3) (.c 8353516859464449352)),
    (4, .bool, .cmp .lss (.v 3) (.c 8353516859464449352))],
    [(.v 8, true), (.v 7, true), (.v 6, false), (.v 5, true), (.v 4, false)], [.c 1]⟩)
  (.node (.v 9)
  (.leaf ⟨[(10, .bool, .cmp .lss (.v 0) (.c 18446744069414584321)),
    (9, .bool, .cmp .eql (.v 1) (.c 6034159408538082302)),
    (8, .bool, .cmp .lss (.v 1) (.c 6034159408538082302)),
    (7, .bool, .cmp .eql (.v 2) (.c 3691218898639771653)),
    (6, .bool, .cmp .lss (.v 2) (.c 3691218898639771653)),
    (5, .bool, .cmp .eql (.v 3) (.c 8353516859464449352)),
    (4, .bool, .cmp .lss (.v 3) (.c 8353516859464449352))],
    [(.v 9, true), (.v 8, false), (.v 7, true), (.v 6, false), (.v 5, true), (.v 4, false)], [.v 10]⟩)
  (.leaf ⟨[(9, .bool, .cmp .eql (.v 1) (.c 6034159408538082302)),
    (8, .bool, .cmp .lss (.v 1) (.c 6034159408538082302)),
    (7, .bool, .cmp .eql (.v 2) (.c 3691218898639771653)),
    (6, .bool, .cmp .lss (.v 2) (.c 3691218898639771653)),
    (5, .bool, .cmp .eql (.v 3) (.c 8353516859464449352)),
    (4, .bool, .cmp .lss (.v 3) (.c 8353516859464449352))],
    [(.v 9, false), (.v 8, false), (.v 7, true), (.v 6, false), (.v 5, true), (.v 4, false)], [.c 0]⟩)))
  (.leaf ⟨[(7, .bool, .cmp .eql (.v 2) (.c 3691218898639771653)),
    (6, .bool, .cmp .lss (.v 2) (.c 3691218898639771653)),
    (5, .bool, .cmp .eql (.v 3) (.c 8353516859464449352)),
    (4, .bool, .cmp .lss (.v 3) (.c 8353516859464449352))],
    [(.v 7, false), (.v 6, false), (.v 5, true), (.v 4, false)], [.c 0]⟩)))
  (.leaf ⟨[(5, .bool, .cmp .eql (.v 3) (.c 8353516859464449352)),
    (4, .bool, .cmp .lss (.v 3) (.c 8353516859464449352))],
    [(.v 5, false), (.v 4, false)], [.c 0]⟩))
theorem chk_small : checkFn Try.prog [] su_small 400 Try.f41 (fun _ => t_small0) = true := by kernel_rfl
theorem ok_small : SummOK Try.prog 41 su_small (Phi 41) := by
  refine summ_fn (Φ := Phi) 400 (fun _ => t_small0) Try.func41 tbl_nil chk_small ?_
  intro al hal l hl ρ hk hs ha
  have hn : su_small.inKinds.length = 4 := rfl
  have hr : row ρ 4 = [ρ 0, ρ 1, ρ 2, ρ 3] := rfl
  rw [hn, hr] at hk ⊢
  simp only [su_small, Summ.inKinds, List.flatMap_cons, List.flatMap_nil, List.replicate, List.cons_append, List.nil_append, List.append_nil, holdsAll, K.holds] at hk
  obtain ⟨b0, b1, b2, b3, _⟩ := hk
  simp only [t_small0, CT.leaves, List.cons_append, List.nil_append, List.mem_cons, List.not_mem_nil, or_false] at hl
  rcases hl with rfl | rfl | rfl | rfl | rfl | rfl | rfl
  · simp only [satTr_cons, satTr_nil, sv_lss, sv_leq, sv_gtr, sv_geq, sv_eql, sv_neq, sv_not, sv_beq, sv_pick, sv_add, sv_sub, sv_fn, sv_eqs, E.den, List.map, K.holds] at hs
    simp only [asrOK_cons, asrOK_nil, if_true, if_false, Bool.false_eq_true, E.den] at ha
    obtain ⟨⟨h4, k4⟩, _⟩ := hs
    obtain ⟨a0, _⟩ := ha
    refine dec_one (p := val [ρ 0, ρ 1, ρ 2, ρ 3] < q) (z := 1) ?_
    simp only [val, q, List.cons.injEq, and_true]
    omega
  · simp only [satTr_cons, satTr_nil, sv_lss, sv_leq, sv_gtr, sv_geq, sv_eql, sv_neq, sv_not, sv_beq, sv_pick, sv_add, sv_sub, sv_fn, sv_eqs, E.den, List.map, K.holds] at hs
    simp only [asrOK_cons, asrOK_nil, if_true, if_false, Bool.false_eq_true, E.den] at ha
    obtain ⟨⟨h6, k6⟩, ⟨h5, k5⟩, ⟨h4, k4⟩, _⟩ := hs
    obtain ⟨a0, a1, a2, _⟩ := ha
    refine dec_one (p := val [ρ 0, ρ 1, ρ 2, ρ 3] < q) (z := 1) ?_
    simp only [val, q, List.cons.injEq, and_true]
    omega
  · simp only [satTr_cons, satTr_nil, sv_lss, sv_leq, sv_gtr, sv_geq, sv_eql, sv_neq, sv_not, sv_beq, sv_pick, sv_add, sv_sub, sv_fn, sv_eqs, E.den, List.map, K.holds] at hs
    simp only [asrOK_cons, asrOK_nil, if_true, if_false, Bool.false_eq_true, E.den] at ha
    obtain ⟨⟨h8, k8⟩, ⟨h7, k7⟩, ⟨h6, k6⟩, ⟨h5, k5⟩, ⟨h4, k4⟩, _⟩ := hs
    obtain ⟨a0, a1, a2, a3, a4, _⟩ := ha
    refine dec_one (p := val [ρ 0, ρ 1, ρ 2, ρ 3] < q) (z := 1) ?_
    simp only [val, q, List.cons.injEq, and_true]
    omega
  · simp only [satTr_cons, satTr_nil, sv_lss, sv_leq, sv_gtr, sv_geq, sv_eql, sv_neq, sv_not, sv_beq, sv_pick, sv_add, sv_sub, sv_fn, sv_eqs, E.den, List.map, K.holds] at hs
    simp only [asrOK_cons, asrOK_nil, if_true, if_false, Bool.false_eq_true, E.den] at ha
    obtain ⟨⟨h10, k10⟩, ⟨h9, k9⟩, ⟨h8, k8⟩, ⟨h7, k7⟩, ⟨h6, k6⟩, ⟨h5, k5⟩, ⟨h4, k4⟩, _⟩ := hs
    obtain ⟨a0, a1, a2, a3, a4, a5, _⟩ := ha
    refine dec_one (p := val [ρ 0, ρ 1, ρ 2, ρ 3] < q) (z := ρ 10) ?_
    simp only [val, q, List.cons.injEq, and_true]
    omega
  · simp only [satTr_cons, satTr_nil, sv_lss, sv_leq, sv_gtr, sv_geq, sv_eql, sv_neq, sv_not, sv_beq, sv_pick, sv_add, sv_sub, sv_fn, sv_eqs, E.den, List.map, K.holds] at hs
    simp only [asrOK_cons, asrOK_nil, if_true, if_false, Bool.false_eq_true, E.den] at ha
    obtain ⟨⟨h9, k9⟩, ⟨h8, k8⟩, ⟨h7, k7⟩, ⟨h6, k6⟩, ⟨h5, k5⟩, ⟨h4, k4⟩, _⟩ := hs
    obtain ⟨a0, a1, a2, a3, a4, a5, _⟩ := ha
    refine dec_one (p := val [ρ 0, ρ 1, ρ 2, ρ 3] < q) (z := 0) ?_
    simp only [val, q, List.cons.injEq, and_true]
    omega
  · simp only [satTr_cons, satTr_nil, sv_lss, sv_leq, sv_gtr, sv_geq, sv_eql, sv_neq, sv_not, sv_beq, sv_pick, sv_add, sv_sub, sv_fn, sv_eqs, E.den, List.map, K.holds] at hs
    simp only [asrOK_cons, asrOK_nil, if_true, if_false, Bool.false_eq_true, E.den] at ha
    obtain ⟨⟨h7, k7⟩, ⟨h6, k6⟩, ⟨h5, k5⟩, ⟨h4, k4⟩, _⟩ := hs
    obtain ⟨a0, a1, a2, a3, _⟩ := ha
    refine dec_one (p := val [ρ 0, ρ 1, ρ 2, ρ 3] < q) (z := 0) ?_
    simp only [val, q, List.cons.injEq, and_true]
    omega
  · simp only [satTr_cons, satTr_nil, sv_lss, sv_leq, sv_gtr, sv_geq, sv_eql, sv_neq, sv_not, sv_beq, sv_pick, sv_add, sv_sub, sv_fn, sv_eqs, E.den, List.map, K.holds] at hs
    simp only [asrOK_cons, asrOK_nil, if_true, if_false, Bool.false_eq_true, E.den] at ha
    obtain ⟨⟨h5, k5⟩, ⟨h4, k4⟩, _⟩ := hs
    obtain ⟨a0, a1, _⟩ := ha
    refine dec_one (p := val [ρ 0, ρ 1, ρ 2, ρ 3] < q) (z := 0) ?_
    simp only [val, q, List.cons.injEq, and_true]
    omega

/-! ### add -/
def su_add : Summ := ⟨[.ptr 4, .ptr 4, .ptr 4], (some 0), [.arg 0]⟩
def t_add0 : CT := .leaf ⟨[(33, .i .u64, .pick (.v 21) (.v 28) (.v 18)),
    (32, .i .u64, .pick (.v 21) (.v 26) (.v 16)),
    (31, .i .u64, .pick (.v 21) (.v 24) (.v 14)),
    (30, .i .u64, .pick (.v 21) (.v 22) (.v 12)),
    (29, .bit, .fn 39 [.v 18, .c 8353516859464449352, .v 27] 1),
    (28, .i .u64, .fn 39 [.v 18, .c 8353516859464449352, .v 27] 0),
    (27, .bit, .fn 39 [.v 16, .c 3691218898639771653, .v 25] 1),
    (26, .i .u64, .fn 39 [.v 16, .c 3691218898639771653, .v 25] 0),
    (25, .bit, .fn 39 [.v 14, .c 6034159408538082302, .v 23] 1),
    (24, .i .u64, .fn 39 [.v 14, .c 6034159408538082302, .v 23] 0),
    (23, .bit, .fn 39 [.v 12, .c 18446744069414584321, .c 0] 1),
    (22, .i .u64, .fn 39 [.v 12, .c 18446744069414584321, .c 0] 0),
    (21, .bool, .not (.v 20)),
    (20, .bool, .fn 41 [.v 12, .v 14, .v 16, .v 18] 0),
    (19, .bit, .fn 40 [.v 7, .v 11, .v 17] 1),
    (18, .i .u64, .fn 40 [.v 7, .v 11, .v 17] 0),
    (17, .bit, .fn 40 [.v 6, .v 10, .v 15] 1),
    (16, .i .u64, .fn 40 [.v 6, .v 10, .v 15] 0),
    (15, .bit, .fn 40 [.v 5, .v 9, .v 13] 1),
    (14, .i .u64, .fn 40 [.v 5, .v 9, .v 13] 0),
    (13, .bit, .fn 40 [.v 4, .v 8, .c 0] 1),
    (12, .i .u64, .fn 40 [.v 4, .v 8, .c 0] 0)],
    [], [.v 30, .v 31, .v 32, .v 33]⟩
theorem chk_add : checkFn Try.prog [(40, addSub), (39, addSub), (41, su_small)] su_add 400 Try.f31 (fun _ => t_add0) = true := by kernel_rfl
theorem ok_add : SummOK Try.prog 31 su_add (Phi 31) := by
  refine summ_fn (Φ := Phi) 400 (fun _ => t_add0) Try.func31 (tbl_cons ok_add64 (tbl_cons ok_sub64 (tbl_cons ok_small tbl_nil))) chk_add ?_
  intro al hal l hl ρ hk hs ha
  have hn : su_add.inKinds.length = 12 := rfl
  have hr : row ρ 12 = [ρ 0, ρ 1, ρ 2, ρ 3, ρ 4, ρ 5, ρ 6, ρ 7, ρ 8, ρ 9, ρ 10, ρ 11] := rfl
  rw [hn, hr] at hk ⊢
  simp only [su_add, Summ.inKinds, List.flatMap_cons, List.flatMap_nil, List.replicate, List.cons_append, List.nil_append, List.append_nil, holdsAll, K.holds] at hk
  obtain ⟨b0, b1, b2, b3, b4, b5, b6, b7, b8, b9, b10, b11, _⟩ := hk
  simp only [t_add0, CT.leaves, List.cons_append, List.nil_append, List.mem_cons, List.not_mem_nil, or_false] at hl
  subst hl
  simp only [satTr_cons, satTr_nil, sv_lss, sv_leq, sv_gtr, sv_geq, sv_eql, sv_neq, sv_not, sv_beq, sv_pick, sv_add, sv_sub, sv_fn, sv_eqs, E.den, List.map, K.holds] at hs
  simp only [asrOK_cons, asrOK_nil, if_true, if_false, Bool.false_eq_true, E.den] at ha
  obtain ⟨⟨h33, k33⟩, ⟨h32, k32⟩, ⟨h31, k31⟩, ⟨h30, k30⟩, ⟨h29, k29⟩, ⟨h28, k28⟩, ⟨h27, k27⟩, ⟨h26, k26⟩, ⟨h25, k25⟩, ⟨h24, k24⟩, ⟨h23, k23⟩, ⟨h22, k22⟩, ⟨h21, k21⟩, ⟨h20, k20⟩, ⟨h19, k19⟩, ⟨h18, k18⟩, ⟨h17, k17⟩, ⟨h16, k16⟩, ⟨h15, k15⟩, ⟨h14, k14⟩, ⟨h13, k13⟩, ⟨h12, k12⟩, _⟩ := hs
  clear ha
  have r12 : ρ 12 + 18446744073709551616 * ρ 13 = ρ 4 + ρ 8 + 0 := adc h12 h13
  have r14 : ρ 14 + 18446744073709551616 * ρ 15 = ρ 5 + ρ 9 + ρ 13 := adc h14 h15
  have r16 : ρ 16 + 18446744073709551616 * ρ 17 = ρ 6 + ρ 10 + ρ 15 := adc h16 h17
  have r18 : ρ 18 + 18446744073709551616 * ρ 19 = ρ 7 + ρ 11 + ρ 17 := adc h18 h19
  have e20 : ρ 20 = b2i (decide (val [ρ 12, ρ 14, ρ 16, ρ 18] < q)) := h20
  rw [st_dec] at e20
  have r22 : ρ 22 - 18446744073709551616 * ρ 23 = ρ 12 - 18446744069414584321 - 0 := sbb k12 (by decide) (by decide) h22 h23
  have r24 : ρ 24 - 18446744073709551616 * ρ 25 = ρ 14 - 6034159408538082302 - ρ 23 := sbb k14 (by decide) k23 h24 h25
  have r26 : ρ 26 - 18446744073709551616 * ρ 27 = ρ 16 - 3691218898639771653 - ρ 25 := sbb k16 (by decide) k25 h26 h27
  have r28 : ρ 28 - 18446744073709551616 * ρ 29 = ρ 18 - 8353516859464449352 - ρ 27 := sbb k18 (by decide) k27 h28 h29
  change wds 4 (eAdd 4 q (val [ρ 4, ρ 5, ρ 6, ρ 7]) (val [ρ 8, ρ 9, ρ 10, ρ 11])) = [ρ 30, ρ 31, ρ 32, ρ 33]
  refine add_done (S := [ρ 12, ρ 14, ρ 16, ρ 18]) (D := [ρ 22, ρ 24, ρ 26, ρ 28]) (c := ρ 19) (d := ρ 29) (u64s_cons k12 (u64s_cons k14 (u64s_cons k16 (u64s_cons k18 u64s_nil)))) rfl (u64s_cons k22 (u64s_cons k24 (u64s_cons k26 (u64s_cons k28 u64s_nil)))) rfl ?_ h20 h21 ?_ ?_
  · simp only [val, big]; clear e20; omega
  · simp only [val, big, q]; clear e20; omega
  · by_cases hz : ρ 21 = 0
    · left; refine ⟨hz, ?_⟩; simp only [hz, true_and, ne_eq, not_true_eq_false, false_and, or_false] at h30 h31 h32 h33; rw [h30, h31, h32, h33]
    · right; refine ⟨hz, ?_⟩; simp only [hz, false_and, ne_eq, not_false_eq_true, true_and, false_or] at h30 h31 h32 h33; rw [h30, h31, h32, h33]

/-! ### sub -/
def su_sub : Summ := ⟨[.ptr 4, .ptr 4, .ptr 4], (some 0), [.arg 0]⟩
def t_sub0 : CT := .leaf ⟨[(32, .i .u64, .pick (.v 20) (.v 27) (.v 18)),
    (31, .i .u64, .pick (.v 20) (.v 25) (.v 16)),
    (30, .i .u64, .pick (.v 20) (.v 23) (.v 14)),
    (29, .i .u64, .pick (.v 20) (.v 21) (.v 12)),
    (28, .bit, .fn 40 [.v 18, .c 8353516859464449352, .v 26] 1),
    (27, .i .u64, .fn 40 [.v 18, .c 8353516859464449352, .v 26] 0),
    (26, .bit, .fn 40 [.v 16, .c 3691218898639771653, .v 24] 1),
    (25, .i .u64, .fn 40 [.v 16, .c 3691218898639771653, .v 24] 0),
    (24, .bit, .fn 40 [.v 14, .c 6034159408538082302, .v 22] 1),
    (23, .i .u64, .fn 40 [.v 14, .c 6034159408538082302, .v 22] 0),
    (22, .bit, .fn 40 [.v 12, .c 18446744069414584321, .c 0] 1),
    (21, .i .u64, .fn 40 [.v 12, .c 18446744069414584321, .c 0] 0),
    (20, .bool, .cmp .neq (.v 19) (.c 0)),
    (19, .bit, .fn 39 [.v 7, .v 11, .v 17] 1),
    (18, .i .u64, .fn 39 [.v 7, .v 11, .v 17] 0),
    (17, .bit, .fn 39 [.v 6, .v 10, .v 15] 1),
    (16, .i .u64, .fn 39 [.v 6, .v 10, .v 15] 0),
    (15, .bit, .fn 39 [.v 5, .v 9, .v 13] 1),
    (14, .i .u64, .fn 39 [.v 5, .v 9, .v 13] 0),
    (13, .bit, .fn 39 [.v 4, .v 8, .c 0] 1),
    (12, .i .u64, .fn 39 [.v 4, .v 8, .c 0] 0)],
    [], [.v 29, .v 30, .v 31, .v 32]⟩
theorem chk_sub : checkFn Try.prog [(40, addSub), (39, addSub)] su_sub 400 Try.f32 (fun _ => t_sub0) = true := by kernel_rfl
theorem ok_sub : SummOK Try.prog 32 su_sub (Phi 32) := by
  refine summ_fn (Φ := Phi) 400 (fun _ => t_sub0) Try.func32 (tbl_cons ok_add64 (tbl_cons ok_sub64 tbl_nil)) chk_sub ?_
  intro al hal l hl ρ hk hs ha
  have hn : su_sub.inKinds.length = 12 := rfl
  have hr : row ρ 12 = [ρ 0, ρ 1, ρ 2, ρ 3, ρ 4, ρ 5, ρ 6, ρ 7, ρ 8, ρ 9, ρ 10, ρ 11] := rfl
  rw [hn, hr] at hk ⊢
  simp only [su_sub, Summ.inKinds, List.flatMap_cons, List.flatMap_nil, List.replicate, List.cons_append, List.nil_append, List.append_nil, holdsAll, K.holds] at hk
  obtain ⟨b0, b1, b2, b3, b4, b5, b6, b7, b8, b9, b10, b11, _⟩ := hk
  simp only [t_sub0, CT.leaves, List.cons_append, List.nil_append, List.mem_cons, List.not_mem_nil, or_false] at hl
  subst hl
  simp only [satTr_cons, satTr_nil, sv_lss, sv_leq, sv_gtr, sv_geq, sv_eql, sv_neq, sv_not, sv_beq, sv_pick, sv_add, sv_sub, sv_fn, sv_eqs, E.den, List.map, K.holds] at hs
  simp only [asrOK_cons, asrOK_nil, if_true, if_false, Bool.false_eq_true, E.den] at ha
  obtain ⟨⟨h32, k32⟩, ⟨h31, k31⟩, ⟨h30, k30⟩, ⟨h29, k29⟩, ⟨h28, k28⟩, ⟨h27, k27⟩, ⟨h26, k26⟩, ⟨h25, k25⟩, ⟨h24, k24⟩, ⟨h23, k23⟩, ⟨h22, k22⟩, ⟨h21, k21⟩, ⟨h20, k20⟩, ⟨h19, k19⟩, ⟨h18, k18⟩, ⟨h17, k17⟩, ⟨h16, k16⟩, ⟨h15, k15⟩, ⟨h14, k14⟩, ⟨h13, k13⟩, ⟨h12, k12⟩, _⟩ := hs
  clear ha
  have r12 : ρ 12 - 18446744073709551616 * ρ 13 = ρ 4 - ρ 8 - 0 := sbb b4 b8 (by decide) h12 h13
  have r14 : ρ 14 - 18446744073709551616 * ρ 15 = ρ 5 - ρ 9 - ρ 13 := sbb b5 b9 k13 h14 h15
  have r16 : ρ 16 - 18446744073709551616 * ρ 17 = ρ 6 - ρ 10 - ρ 15 := sbb b6 b10 k15 h16 h17
  have r18 : ρ 18 - 18446744073709551616 * ρ 19 = ρ 7 - ρ 11 - ρ 17 := sbb b7 b11 k17 h18 h19
  have r21 : ρ 21 + 18446744073709551616 * ρ 22 = ρ 12 + 18446744069414584321 + 0 := adc h21 h22
  have r23 : ρ 23 + 18446744073709551616 * ρ 24 = ρ 14 + 6034159408538082302 + ρ 22 := adc h23 h24
  have r25 : ρ 25 + 18446744073709551616 * ρ 26 = ρ 16 + 3691218898639771653 + ρ 24 := adc h25 h26
  have r27 : ρ 27 + 18446744073709551616 * ρ 28 = ρ 18 + 8353516859464449352 + ρ 26 := adc h27 h28
  change wds 4 (subM (val [ρ 4, ρ 5, ρ 6, ρ 7]) (val [ρ 8, ρ 9, ρ 10, ρ 11]) q) = [ρ 29, ρ 30, ρ 31, ρ 32]
  refine sub_done (S := [ρ 12, ρ 14, ρ 16, ρ 18]) (D := [ρ 21, ρ 23, ρ 25, ρ 27]) (c := ρ 19) (d := ρ 28) (val_lt (u64s_cons b4 (u64s_cons b5 (u64s_cons b6 (u64s_cons b7 u64s_nil)))) rfl) (val_lt (u64s_cons b8 (u64s_cons b9 (u64s_cons b10 (u64s_cons b11 u64s_nil)))) rfl) (u64s_cons k12 (u64s_cons k14 (u64s_cons k16 (u64s_cons k18 u64s_nil)))) rfl (u64s_cons k21 (u64s_cons k23 (u64s_cons k25 (u64s_cons k27 u64s_nil)))) rfl k19 ?_ h20 ?_ ?_
  · simp only [val, big]; omega
  · simp only [val, big, q]; omega
  · by_cases hz : ρ 20 = 0
    · left; refine ⟨hz, ?_⟩; simp only [hz, true_and, ne_eq, not_true_eq_false, false_and, or_false] at h29 h30 h31 h32; rw [h29, h30, h31, h32]
    · right; refine ⟨hz, ?_⟩; simp only [hz, false_and, ne_eq, not_false_eq_true, true_and, false_or] at h29 h30 h31 h32; rw [h29, h30, h31, h32]

/-! ### iNeg -/
def su_iNeg : Summ := ⟨[.agg 4], none, [.agg 4]⟩
def t_iNeg0 : CT := .leaf ⟨[(7, .i .u64, .fn 28 [.c 0, .c 0, .c 0, .c 0, .v 0, .v 1, .v 2, .v 3] 3),
    (6, .i .u64, .fn 28 [.c 0, .c 0, .c 0, .c 0, .v 0, .v 1, .v 2, .v 3] 2),
    (5, .i .u64, .fn 28 [.c 0, .c 0, .c 0, .c 0, .v 0, .v 1, .v 2, .v 3] 1),
    (4, .i .u64, .fn 28 [.c 0, .c 0, .c 0, .c 0, .v 0, .v 1, .v 2, .v 3] 0)],
    [], [.v 4, .v 5, .v 6, .v 7]⟩
theorem chk_iNeg : checkFn Try.prog [(28, su_neg)] su_iNeg 400 Try.f16 (fun _ => t_iNeg0) = true := by kernel_rfl
theorem ok_iNeg : SummOK Try.prog 16 su_iNeg (Phi 16) := by
  refine summ_fn (Φ := Phi) 400 (fun _ => t_iNeg0) Try.func16 (tbl_cons ok_neg tbl_nil) chk_iNeg ?_
  intro al hal l hl ρ hk hs ha
  have hn : su_iNeg.inKinds.length = 4 := rfl
  have hr : row ρ 4 = [ρ 0, ρ 1, ρ 2, ρ 3] := rfl
  rw [hn, hr] at hk ⊢
  simp only [su_iNeg, Summ.inKinds, List.flatMap_cons, List.flatMap_nil, List.replicate, List.cons_append, List.nil_append, List.append_nil, holdsAll, K.holds] at hk
  obtain ⟨b0, b1, b2, b3, _⟩ := hk
  simp only [t_iNeg0, CT.leaves, List.cons_append, List.nil_append, List.mem_cons, List.not_mem_nil, or_false] at hl
  subst hl
  simp only [satTr_cons, satTr_nil, sv_lss, sv_leq, sv_gtr, sv_geq, sv_eql, sv_neq, sv_not, sv_beq, sv_pick, sv_add, sv_sub, sv_fn, sv_eqs, E.den, List.map, K.holds] at hs
  simp only [asrOK_cons, asrOK_nil, if_true, if_false, Bool.false_eq_true, E.den] at ha
  obtain ⟨⟨h7, k7⟩, ⟨h6, k6⟩, ⟨h5, k5⟩, ⟨h4, k4⟩, _⟩ := hs
  clear ha
  have g4 : [ρ 4, ρ 5, ρ 6, ρ 7] = wds 4 (eNeg q (val [ρ 0, ρ 1, ρ 2, ρ 3])) := get4 rfl h4 h5 h6 h7
  exact g4.symm

/-! ### iAdd -/
def su_iAdd : Summ := ⟨[.agg 4, .agg 4], none, [.agg 4]⟩
def t_iAdd0 : CT := .leaf ⟨[(11, .i .u64, .fn 31 [.c 0, .c 0, .c 0, .c 0, .v 0, .v 1, .v 2, .v 3, .v 4, .v 5, .v 6, .v 7] 3),
    (10, .i .u64, .fn 31 [.c 0, .c 0, .c 0, .c 0, .v 0, .v 1, .v 2, .v 3, .v 4, .v 5, .v 6, .v 7] 2),
    (9, .i .u64, .fn 31 [.c 0, .c 0, .c 0, .c 0, .v 0, .v 1, .v 2, .v 3, .v 4, .v 5, .v 6, .v 7] 1),
    (8, .i .u64, .fn 31 [.c 0, .c 0, .c 0, .c 0, .v 0, .v 1, .v 2, .v 3, .v 4, .v 5, .v 6, .v 7] 0)],
    [], [.v 8, .v 9, .v 10, .v 11]⟩
theorem chk_iAdd : checkFn Try.prog [(31, su_add)] su_iAdd 400 Try.f18 (fun _ => t_iAdd0) = true := by kernel_rfl
theorem ok_iAdd : SummOK Try.prog 18 su_iAdd (Phi 18) := by
  refine summ_fn (Φ := Phi) 400 (fun _ => t_iAdd0) Try.func18 (tbl_cons ok_add tbl_nil) chk_iAdd ?_
  intro al hal l hl ρ hk hs ha
  have hn : su_iAdd.inKinds.length = 8 := rfl
  have hr : row ρ 8 = [ρ 0, ρ 1, ρ 2, ρ 3, ρ 4, ρ 5, ρ 6, ρ 7] := rfl
  rw [hn, hr] at hk ⊢
  simp only [su_iAdd, Summ.inKinds, List.flatMap_cons, List.flatMap_nil, List.replicate, List.cons_append, List.nil_append, List.append_nil, holdsAll, K.holds] at hk
  obtain ⟨b0, b1, b2, b3, b4, b5, b6, b7, _⟩ := hk
  simp only [t_iAdd0, CT.leaves, List.cons_append, List.nil_append, List.mem_cons, List.not_mem_nil, or_false] at hl
  subst hl
  simp only [satTr_cons, satTr_nil, sv_lss, sv_leq, sv_gtr, sv_geq, sv_eql, sv_neq, sv_not, sv_beq, sv_pick, sv_add, sv_sub, sv_fn, sv_eqs, E.den, List.map, K.holds] at hs
  simp only [asrOK_cons, asrOK_nil, if_true, if_false, Bool.false_eq_true, E.den] at ha
  obtain ⟨⟨h11, k11⟩, ⟨h10, k10⟩, ⟨h9, k9⟩, ⟨h8, k8⟩, _⟩ := hs
  clear ha
  have g8 : [ρ 8, ρ 9, ρ 10, ρ 11] = wds 4 (eAdd 4 q (val [ρ 0, ρ 1, ρ 2, ρ 3]) (val [ρ 4, ρ 5, ρ 6, ρ 7])) := get4 rfl h8 h9 h10 h11
  exact g8.symm

/-! ### iSub -/
def su_iSub : Summ := ⟨[.agg 4, .agg 4], none, [.agg 4]⟩
def t_iSub0 : CT := .leaf ⟨[(11, .i .u64, .fn 32 [.c 0, .c 0, .c 0, .c 0, .v 0, .v 1, .v 2, .v 3, .v 4, .v 5, .v 6, .v 7] 3),
    (10, .i .u64, .fn 32 [.c 0, .c 0, .c 0, .c 0, .v 0, .v 1, .v 2, .v 3, .v 4, .v 5, .v 6, .v 7] 2),
    (9, .i .u64, .fn 32 [.c 0, .c 0, .c 0, .c 0, .v 0, .v 1, .v 2, .v 3, .v 4, .v 5, .v 6, .v 7] 1),
    (8, .i .u64, .fn 32 [.c 0, .c 0, .c 0, .c 0, .v 0, .v 1, .v 2, .v 3, .v 4, .v 5, .v 6, .v 7] 0)],
    [], [.v 8, .v 9, .v 10, .v 11]⟩
theorem chk_iSub : checkFn Try.prog [(32, su_sub)] su_iSub 400 Try.f19 (fun _ => t_iSub0) = true := by kernel_rfl
theorem ok_iSub : SummOK Try.prog 19 su_iSub (Phi 19) := by
  refine summ_fn (Φ := Phi) 400 (fun _ => t_iSub0) Try.func19 (tbl_cons ok_sub tbl_nil) chk_iSub ?_
  intro al hal l hl ρ hk hs ha
  have hn : su_iSub.inKinds.length = 8 := rfl
  have hr : row ρ 8 = [ρ 0, ρ 1, ρ 2, ρ 3, ρ 4, ρ 5, ρ 6, ρ 7] := rfl
  rw [hn, hr] at hk ⊢
  simp only [su_iSub, Summ.inKinds, List.flatMap_cons, List.flatMap_nil, List.replicate, List.cons_append, List.nil_append, List.append_nil, holdsAll, K.holds] at hk
  obtain ⟨b0, b1, b2, b3, b4, b5, b6, b7, _⟩ := hk
  simp only [t_iSub0, CT.leaves, List.cons_append, List.nil_append, List.mem_cons, List.not_mem_nil, or_false] at hl
  subst hl
  simp only [satTr_cons, satTr_nil, sv_lss, sv_leq, sv_gtr, sv_geq, sv_eql, sv_neq, sv_not, sv_beq, sv_pick, sv_add, sv_sub, sv_fn, sv_eqs, E.den, List.map, K.holds] at hs
  simp only [asrOK_cons, asrOK_nil, if_true, if_false, Bool.false_eq_true, E.den] at ha
  obtain ⟨⟨h11, k11⟩, ⟨h10, k10⟩, ⟨h9, k9⟩, ⟨h8, k8⟩, _⟩ := hs
  clear ha
  have g8 : [ρ 8, ρ 9, ρ 10, ρ 11] = wds 4 (subM (val [ρ 0, ρ 1, ρ 2, ρ 3]) (val [ρ 4, ρ 5, ρ 6, ρ 7]) q) := get4 rfl h8 h9 h10 h11
  exact g8.symm

/-! ### lNegAdd -/
def su_lNegAdd : Summ := ⟨[.agg 4], none, [.sc .bool]⟩
def t_lNegAdd0 : CT := .node (.v 9)
  (.leaf ⟨[(9, .bool, .not (.v 8)),
    (8, .bool, .fn 9 [.v 0, .v 1, .v 2, .v 3, .v 4, .v 5, .v 6, .v 7] 0),
    (7, .i .u64, .fn 10 [] 3),
    (6, .i .u64, .fn 10 [] 2),
    (5, .i .u64, .fn 10 [] 1),
    (4, .i .u64, .fn 10 [] 0)],
    [(.v 9, true)], [.c 1]⟩)
  (.node (.v 18)
  (.node (.v 23)
  (.leaf ⟨[(28, .bool, .eqs [.v 24, .v 25, .v 26, .v 27] [.v 10, .v 11, .v 12, .v 13]),
    (27, .i .u64, .fn 19 [.c 0, .c 0, .c 0, .c 0, .v 0, .v 1, .v 2, .v 3] 3),
    (26, .i .u64, .fn 19 [.c 0, .c 0, .c 0, .c 0, .v 0, .v 1, .v 2, .v 3] 2),
    (25, .i .u64, .fn 19 [.c 0, .c 0, .c 0, .c 0, .v 0, .v 1, .v 2, .v 3] 1),
    (24, .i .u64, .fn 19 [.c 0, .c 0, .c 0, .c 0, .v 0, .v 1, .v 2, .v 3] 0),
    (23, .bool, .eqs [.v 19, .v 20, .v 21, .v 22] [.v 0, .v 1, .v 2, .v 3]),
    (22, .i .u64, .fn 16 [.v 10, .v 11, .v 12, .v 13] 3),
    (21, .i .u64, .fn 16 [.v 10, .v 11, .v 12, .v 13] 2),
    (20, .i .u64, .fn 16 [.v 10, .v 11, .v 12, .v 13] 1),
    (19, .i .u64, .fn 16 [.v 10, .v 11, .v 12, .v 13] 0),
    (18, .bool, .eqs [.v 14, .v 15, .v 16, .v 17] [.c 0, .c 0, .c 0, .c 0]),
    (17, .i .u64, .fn 18 [.v 0, .v 1, .v 2, .v 3, .v 10, .v 11, .v 12, .v 13] 3),
    (16, .i .u64, .fn 18 [.v 0, .v 1, .v 2, .v 3, .v 10, .v 11, .v 12, .v 13] 2),
    (15, .i .u64, .fn 18 [.v 0, .v 1, .v 2, .v 3, .v 10, .v 11, .v 12, .v 13] 1),
    (14, .i .u64, .fn 18 [.v 0, .v 1, .v 2, .v 3, .v 10, .v 11, .v 12, .v 13] 0),
    (13, .i .u64, .fn 16 [.v 0, .v 1, .v 2, .v 3] 3),
    (12, .i .u64, .fn 16 [.v 0, .v 1, .v 2, .v 3] 2),
    (11, .i .u64, .fn 16 [.v 0, .v 1, .v 2, .v 3] 1),
    (10, .i .u64, .fn 16 [.v 0, .v 1, .v 2, .v 3] 0),
    (9, .bool, .not (.v 8)),
    (8, .bool, .fn 9 [.v 0, .v 1, .v 2, .v 3, .v 4, .v 5, .v 6, .v 7] 0),
    (7, .i .u64, .fn 10 [] 3),
    (6, .i .u64, .fn 10 [] 2),
    (5, .i .u64, .fn 10 [] 1),
    (4, .i .u64, .fn 10 [] 0)],
    [(.v 23, true), (.v 18, true), (.v 9, false)], [.v 28]⟩)
  (.leaf ⟨[(23, .bool, .eqs [.v 19, .v 20, .v 21, .v 22] [.v 0, .v 1, .v 2, .v 3]),
    (22, .i .u64, .fn 16 [.v 10, .v 11, .v 12, .v 13] 3),
    (21, .i .u64, .fn 16 [.v 10, .v 11, .v 12, .v 13] 2),
    (20, .i .u64, .fn 16 [.v 10, .v 11, .v 12, .v 13] 1),
    (19, .i .u64, .fn 16 [.v 10, .v 11, .v 12, .v 13] 0),
    (18, .bool, .eqs [.v 14, .v 15, .v 16, .v 17] [.c 0, .c 0, .c 0, .c 0]),
    (17, .i .u64, .fn 18 [.v 0, .v 1, .v 2, .v 3, .v 10, .v 11, .v 12, .v 13] 3),
    (16, .i .u64, .fn 18 [.v 0, .v 1, .v 2, .v 3, .v 10, .v 11, .v 12, .v 13] 2),
    (15, .i .u64, .fn 18 [.v 0, .v 1, .v 2, .v 3, .v 10, .v 11, .v 12, .v 13] 1),
    (14, .i .u64, .fn 18 [.v 0, .v 1, .v 2, .v 3, .v 10, .v 11, .v 12, .v 13] 0),
    (13, .i .u64, .fn 16 [.v 0, .v 1, .v 2, .v 3] 3),
    (12, .i .u64, .fn 16 [.v 0, .v 1, .v 2, .v 3] 2),
    (11, .i .u64, .fn 16 [.v 0, .v 1, .v 2, .v 3] 1),
    (10, .i .u64, .fn 16 [.v 0, .v 1, .v 2, .v 3] 0),
    (9, .bool, .not (.v 8)),
    (8, .bool, .fn 9 [.v 0, .v 1, .v 2, .v 3, .v 4, .v 5, .v 6, .v 7] 0),
    (7, .i .u64, .fn 10 [] 3),
    (6, .i .u64, .fn 10 [] 2),
    (5, .i .u64, .fn 10 [] 1),
    (4, .i .u64, .fn 10 [] 0)],
    [(.v 23, false), (.v 18, true), (.v 9, false)], [.c 0]⟩))
  (.leaf ⟨[(18, .bool, .eqs [.v 14, .v 15, .v 16, .v 17] [.c 0, .c 0, .c 0, .c 0]),
    (17, .i .u64, .fn 18 [.v 0, .v 1, .v 2, .v 3, .v 10, .v 11, .v 12, .v 13] 3),
    (16, .i .u64, .fn 18 [.v 0, .v 1, .v 2, .v 3, .v 10, .v 11, .v 12, .v 13] 2),
    (15, .i .u64, .fn 18 [.v 0, .v 1, .v 2, .v 3, .v 10, .v 11, .v 12, .v 13] 1),
    (14, .i .u64, .fn 18 [.v 0, .v 1, .v 2, .v 3, .v 10, .v 11, .v 12, .v 13] 0),
    (13, .i .u64, .fn 16 [.v 0, .v 1, .v 2, .v 3] 3),
    (12, .i .u64, .fn 16 [.v 0, .v 1, .v 2, .v 3] 2),
    (11, .i .u64, .fn 16 [.v 0, .v 1, .v 2, .v 3] 1),
    (10, .i .u64, .fn 16 [.v 0, .v 1, .v 2, .v 3] 0),
    (9, .bool, .not (.v 8)),
    (8, .bool, .fn 9 [.v 0, .v 1, .v 2, .v 3, .v 4, .v 5, .v 6, .v 7] 0),
    (7, .i .u64, .fn 10 [] 3),
    (6, .i .u64, .fn 10 [] 2),
    (5, .i .u64, .fn 10 [] 1),
    (4, .i .u64, .fn 10 [] 0)],
    [(.v 18, false), (.v 9, false)], [.c 0]⟩))
theorem chk_lNegAdd : checkFn Try.prog [(9, su_less), (10, su_prime), (16, su_iNeg), (18, su_iAdd), (19, su_iSub)] su_lNegAdd 400 Try.f8 (fun _ => t_lNegAdd0) = true := by kernel_rfl
theorem ok_lNegAdd : SummOK Try.prog 8 su_lNegAdd (Phi 8) := by
  refine summ_fn (Φ := Phi) 400 (fun _ => t_lNegAdd0) Try.func8 (tbl_cons ok_less (tbl_cons ok_prime (tbl_cons ok_iNeg (tbl_cons ok_iAdd (tbl_cons ok_iSub tbl_nil))))) chk_lNegAdd ?_
  intro al hal l hl ρ hk hs ha
  have hn : su_lNegAdd.inKinds.length = 4 := rfl
  have hr : row ρ 4 = [ρ 0, ρ 1, ρ 2, ρ 3] := rfl
  rw [hn, hr] at hk ⊢
  simp only [su_lNegAdd, Summ.inKinds, List.flatMap_cons, List.flatMap_nil, List.replicate, List.cons_append, List.nil_append, List.append_nil, holdsAll, K.holds] at hk
  obtain ⟨b0, b1, b2, b3, _⟩ := hk
  simp only [t_lNegAdd0, CT.leaves, List.cons_append, List.nil_append, List.mem_cons, List.not_mem_nil, or_false] at hl
  rcases hl with rfl | rfl | rfl | rfl
  · simp only [satTr_cons, satTr_nil, sv_lss, sv_leq, sv_gtr, sv_geq, sv_eql, sv_neq, sv_not, sv_beq, sv_pick, sv_add, sv_sub, sv_fn, sv_eqs, E.den, List.map, K.holds] at hs
    simp only [asrOK_cons, asrOK_nil, if_true, if_false, Bool.false_eq_true, E.den] at ha
    obtain ⟨⟨h9, k9⟩, ⟨h8, k8⟩, ⟨h7, k7⟩, ⟨h6, k6⟩, ⟨h5, k5⟩, ⟨h4, k4⟩, _⟩ := hs
    obtain ⟨a0, _⟩ := ha
    have g4 : [ρ 4, ρ 5, ρ 6, ρ 7] = wds 4 q := get4 rfl h4 h5 h6 h7
    have e8 : ρ 8 = b2i (decide (val [ρ 0, ρ 1, ρ 2, ρ 3] < val [ρ 4, ρ 5, ρ 6, ρ 7])) := h8
    rw [st_dec] at e8
    rfl
  · simp only [satTr_cons, satTr_nil, sv_lss, sv_leq, sv_gtr, sv_geq, sv_eql, sv_neq, sv_not, sv_beq, sv_pick, sv_add, sv_sub, sv_fn, sv_eqs, E.den, List.map, K.holds] at hs
    simp only [asrOK_cons, asrOK_nil, if_true, if_false, Bool.false_eq_true, E.den] at ha
    obtain ⟨⟨h28, k28⟩, ⟨h27, k27⟩, ⟨h26, k26⟩, ⟨h25, k25⟩, ⟨h24, k24⟩, ⟨h23, k23⟩, ⟨h22, k22⟩, ⟨h21, k21⟩, ⟨h20, k20⟩, ⟨h19, k19⟩, ⟨h18, k18⟩, ⟨h17, k17⟩, ⟨h16, k16⟩, ⟨h15, k15⟩, ⟨h14, k14⟩, ⟨h13, k13⟩, ⟨h12, k12⟩, ⟨h11, k11⟩, ⟨h10, k10⟩, ⟨h9, k9⟩, ⟨h8, k8⟩, ⟨h7, k7⟩, ⟨h6, k6⟩, ⟨h5, k5⟩, ⟨h4, k4⟩, _⟩ := hs
    obtain ⟨a0, a1, a2, _⟩ := ha
    have g4 : [ρ 4, ρ 5, ρ 6, ρ 7] = wds 4 q := get4 rfl h4 h5 h6 h7
    have e8 : ρ 8 = b2i (decide (val [ρ 0, ρ 1, ρ 2, ρ 3] < val [ρ 4, ρ 5, ρ 6, ρ 7])) := h8
    rw [st_dec] at e8
    have g10 : [ρ 10, ρ 11, ρ 12, ρ 13] = wds 4 (eNeg q (val [ρ 0, ρ 1, ρ 2, ρ 3])) := get4 rfl h10 h11 h12 h13
    have g14 : [ρ 14, ρ 15, ρ 16, ρ 17] = wds 4 (eAdd 4 q (val [ρ 0, ρ 1, ρ 2, ρ 3]) (val [ρ 10, ρ 11, ρ 12, ρ 13])) := get4 rfl h14 h15 h16 h17
    have g19 : [ρ 19, ρ 20, ρ 21, ρ 22] = wds 4 (eNeg q (val [ρ 10, ρ 11, ρ 12, ρ 13])) := get4 rfl h19 h20 h21 h22
    have g24 : [ρ 24, ρ 25, ρ 26, ρ 27] = wds 4 (subM (val [0, 0, 0, 0]) (val [ρ 0, ρ 1, ρ 2, ρ 3]) q) := get4 rfl h24 h25 h26 h27
    have hp : val (wds 4 q) = q := by kernel_rfl
    rw [g4, hp] at e8
    have ha : val [ρ 0, ρ 1, ρ 2, ρ 3] < q := by omega
    have hz : wds 4 0 = [0, 0, 0, 0] := by kernel_rfl
    have f1 : [ρ 14, ρ 15, ρ 16, ρ 17] = [0, 0, 0, 0] := by rw [g14, g10, law_neg_add (u64s_cons b0 (u64s_cons b1 (u64s_cons b2 (u64s_cons b3 u64s_nil)))) ha (by decide), hz]
    have f2 : [ρ 19, ρ 20, ρ 21, ρ 22] = [ρ 0, ρ 1, ρ 2, ρ 3] := by rw [g19, g10]; exact law_neg_neg (u64s_cons b0 (u64s_cons b1 (u64s_cons b2 (u64s_cons b3 u64s_nil)))) rfl ha (by decide)
    have h0 : val [0, 0, 0, 0] = 0 := by kernel_rfl
    have f3 : [ρ 24, ρ 25, ρ 26, ρ 27] = [ρ 10, ρ 11, ρ 12, ρ 13] := by rw [g24, g10, h0]; exact law_neg_sub (u64s_cons b0 (u64s_cons b1 (u64s_cons b2 (u64s_cons b3 u64s_nil)))) ha
    simp only [f3, true_and, not_true_eq_false, false_and, or_false] at h28
    change [1] = [ρ 28]
    rw [h28]
  · simp only [satTr_cons, satTr_nil, sv_lss, sv_leq, sv_gtr, sv_geq, sv_eql, sv_neq, sv_not, sv_beq, sv_pick, sv_add, sv_sub, sv_fn, sv_eqs, E.den, List.map, K.holds] at hs
    simp only [asrOK_cons, asrOK_nil, if_true, if_false, Bool.false_eq_true, E.den] at ha
    obtain ⟨⟨h23, k23⟩, ⟨h22, k22⟩, ⟨h21, k21⟩, ⟨h20, k20⟩, ⟨h19, k19⟩, ⟨h18, k18⟩, ⟨h17, k17⟩, ⟨h16, k16⟩, ⟨h15, k15⟩, ⟨h14, k14⟩, ⟨h13, k13⟩, ⟨h12, k12⟩, ⟨h11, k11⟩, ⟨h10, k10⟩, ⟨h9, k9⟩, ⟨h8, k8⟩, ⟨h7, k7⟩, ⟨h6, k6⟩, ⟨h5, k5⟩, ⟨h4, k4⟩, _⟩ := hs
    obtain ⟨a0, a1, a2, _⟩ := ha
    have g4 : [ρ 4, ρ 5, ρ 6, ρ 7] = wds 4 q := get4 rfl h4 h5 h6 h7
    have e8 : ρ 8 = b2i (decide (val [ρ 0, ρ 1, ρ 2, ρ 3] < val [ρ 4, ρ 5, ρ 6, ρ 7])) := h8
    rw [st_dec] at e8
    have g10 : [ρ 10, ρ 11, ρ 12, ρ 13] = wds 4 (eNeg q (val [ρ 0, ρ 1, ρ 2, ρ 3])) := get4 rfl h10 h11 h12 h13
    have g14 : [ρ 14, ρ 15, ρ 16, ρ 17] = wds 4 (eAdd 4 q (val [ρ 0, ρ 1, ρ 2, ρ 3]) (val [ρ 10, ρ 11, ρ 12, ρ 13])) := get4 rfl h14 h15 h16 h17
    have g19 : [ρ 19, ρ 20, ρ 21, ρ 22] = wds 4 (eNeg q (val [ρ 10, ρ 11, ρ 12, ρ 13])) := get4 rfl h19 h20 h21 h22
    have hp : val (wds 4 q) = q := by kernel_rfl
    rw [g4, hp] at e8
    have ha : val [ρ 0, ρ 1, ρ 2, ρ 3] < q := by omega
    have hz : wds 4 0 = [0, 0, 0, 0] := by kernel_rfl
    have f1 : [ρ 14, ρ 15, ρ 16, ρ 17] = [0, 0, 0, 0] := by rw [g14, g10, law_neg_add (u64s_cons b0 (u64s_cons b1 (u64s_cons b2 (u64s_cons b3 u64s_nil)))) ha (by decide), hz]
    have f2 : [ρ 19, ρ 20, ρ 21, ρ 22] = [ρ 0, ρ 1, ρ 2, ρ 3] := by rw [g19, g10]; exact law_neg_neg (u64s_cons b0 (u64s_cons b1 (u64s_cons b2 (u64s_cons b3 u64s_nil)))) rfl ha (by decide)
    simp only [f2, true_and, not_true_eq_false, false_and, or_false] at h23
    omega
  · simp only [satTr_cons, satTr_nil, sv_lss, sv_leq, sv_gtr, sv_geq, sv_eql, sv_neq, sv_not, sv_beq, sv_pick, sv_add, sv_sub, sv_fn, sv_eqs, E.den, List.map, K.holds] at hs
    simp only [asrOK_cons, asrOK_nil, if_true, if_false, Bool.false_eq_true, E.den] at ha
    obtain ⟨⟨h18, k18⟩, ⟨h17, k17⟩, ⟨h16, k16⟩, ⟨h15, k15⟩, ⟨h14, k14⟩, ⟨h13, k13⟩, ⟨h12, k12⟩, ⟨h11, k11⟩, ⟨h10, k10⟩, ⟨h9, k9⟩, ⟨h8, k8⟩, ⟨h7, k7⟩, ⟨h6, k6⟩, ⟨h5, k5⟩, ⟨h4, k4⟩, _⟩ := hs
    obtain ⟨a0, a1, _⟩ := ha
    have g4 : [ρ 4, ρ 5, ρ 6, ρ 7] = wds 4 q := get4 rfl h4 h5 h6 h7
    have e8 : ρ 8 = b2i (decide (val [ρ 0, ρ 1, ρ 2, ρ 3] < val [ρ 4, ρ 5, ρ 6, ρ 7])) := h8
    rw [st_dec] at e8
    have g10 : [ρ 10, ρ 11, ρ 12, ρ 13] = wds 4 (eNeg q (val [ρ 0, ρ 1, ρ 2, ρ 3])) := get4 rfl h10 h11 h12 h13
    have g14 : [ρ 14, ρ 15, ρ 16, ρ 17] = wds 4 (eAdd 4 q (val [ρ 0, ρ 1, ρ 2, ρ 3]) (val [ρ 10, ρ 11, ρ 12, ρ 13])) := get4 rfl h14 h15 h16 h17
    have hp : val (wds 4 q) = q := by kernel_rfl
    rw [g4, hp] at e8
    have ha : val [ρ 0, ρ 1, ρ 2, ρ 3] < q := by omega
    have hz : wds 4 0 = [0, 0, 0, 0] := by kernel_rfl
    have f1 : [ρ 14, ρ 15, ρ 16, ρ 17] = [0, 0, 0, 0] := by rw [g14, g10, law_neg_add (u64s_cons b0 (u64s_cons b1 (u64s_cons b2 (u64s_cons b3 u64s_nil)))) ha (by decide), hz]
    simp only [f1, true_and, not_true_eq_false, false_and, or_false] at h18
    omega

end Go.Proofs.Ytopoffodlfnejaa
