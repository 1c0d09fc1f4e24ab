/- The functions of the seat Ytifnkaddhaddmaa, each once: its ways through the text, and what it comes to in numbers. Written by a program (gen.py). -/
import Derived.Test.YtifnkaddhaddmaaSymU
import Derived.Test.YtifnkaddhaddmaaSymZ
import Derived.Test.YtifnkaddhaddmaaRows
set_option linter.unusedVariables false
set_option linter.unusedSimpArgs false
set_option maxRecDepth 4000
namespace Go.Proofs.Ytifnkaddhaddmaa
open Go.Sym

def q : Int := 4002409555221667393417789825735904156556882819939007885332058136124031650490837864442687629129015664037894272559787
def r : Int := 3380320199399472671518931668520476396067793891014375699959770179129436917079669831430077592723774664465579537268733

def Phi : Nat → List Int → List Int
  | 9 => lessF 6
  | 13 => sameF 6
  | 10 => primeF 6 q
  | 30 => plusF 6
  | 29 => lessenF 6
  | 27 => addWF 6
  | 17 => subWF 6
  | 15 => setF 6 1
  | 21 => timesF 6
  | 38 => setF 6 0
  | 44 => setF 6 r
  | 25 => zeroF
  | 26 => isF 6 r
  | 41 => smallF q
  | 31 => eaddF 6 q
  | 32 => esubF 6 q
  | 42 => edblF 6 q
  | 28 => enegF 6 q
  | 37 => setF 6 r
  | 33 => mul5F 6 q
  | 24 => setF 6 r
  | 11 => zeroF
  | 12 => isF 6 r
  | 18 => aaddF 6 q
  | 19 => asubF 6 q
  | 16 => anegF 6 q
  | 20 => mul5F 6 q
  | 4 => fun _ => [1]
  | 5 => fun _ => [1]
  | 6 => fun _ => [1]
  | 8 => fun _ => [1]
  | 3 => fun _ => [1]
  | 40 => add64F
  | 39 => sub64F
  | 14 => shiftF 6
  | _ => fun _ => []

theorem ok_add64 : SummOK Try.prog 40 addSub (Phi 40) := summ_add64 Try.func40 (by kernel_rfl) (by kernel_rfl) (by kernel_rfl) (by kernel_rfl)

theorem ok_sub64 : SummOK Try.prog 39 addSub (Phi 39) := summ_sub64 Try.func39 (by kernel_rfl) (by kernel_rfl) (by kernel_rfl) (by kernel_rfl)

/-! ### less -/
def su_less : Summ := ⟨[.slc 6, .slc 6], none, [.sc .bool]⟩
def t_less0 : CT := .node (.v 12)
  (.leaf ⟨[(13, .bool, .cmp .lss (.v 5) (.v 11)),
    (12, .bool, .cmp .neq (.v 5) (.v 11))],
    [(.v 12, true)], [.v 13]⟩)
  (.node (.v 13)
  (.leaf ⟨[(14, .bool, .cmp .lss (.v 4) (.v 10)),
    (13, .bool, .cmp .neq (.v 4) (.v 10)),
    (12, .bool, .cmp .neq (.v 5) (.v 11))],
    [(.v 13, true), (.v 12, false)], [.v 14]⟩)
  (.node (.v 14)
  (.leaf ⟨[(15, .bool, .cmp .lss (.v 3) (.v 9)),
    (14, .bool, .cmp .neq (.v 3) (.v 9)),
    (13, .bool, .cmp .neq (.v 4) (.v 10)),
    (12, .bool, .cmp .neq (.v 5) (.v 11))],
    [(.v 14, true), (.v 13, false), (.v 12, false)], [.v 15]⟩)
  (.node (.v 15)
  (.leaf ⟨[(16, .bool, .cmp .lss (.v 2) (.v 8)),
    (15, .bool, .cmp .neq (.v 2) (.v 8)),
    (14, .bool, .cmp .neq (.v 3) (.v 9)),
    (13, .bool, .cmp .neq (.v 4) (.v 10)),
    (12, .bool, .cmp .neq (.v 5) (.v 11))],
    [(.v 15, true), (.v 14, false), (.v 13, false), (.v 12, false)], [.v 16]⟩)
  (.node (.v 16)
  (.leaf ⟨[(17, .bool, .cmp .lss (.v 1) (.v 7)),
    (16, .bool, .cmp .neq (.v 1) (.v 7)),
    (15, .bool, .cmp .neq (.v 2) (.v 8)),
    (14, .bool, .cmp .neq (.v 3) (.v 9)),
    (13, .bool, .cmp .neq (.v 4) (.v 10)),
    (12, .bool, .cmp .neq (.v 5) (.v 11))],
    [(.v 16, true), (.v 15, false), (.v 14, false), (.v 13, false), (.v 12, false)], [.v 17]⟩)
  (.node (.v 17)
  (.leaf ⟨[(18, .bool, .cmp .lss (.v 0) (.v 6)),
    (17, .bool, .cmp .neq (.v 0) (.v 6)),
    (16, .bool, .cmp .neq (.v 1) (.v 7)),
    (15, .bool, .cmp .neq (.v 2) (.v 8)),
    (14, .bool, .cmp .neq (.v 3) (.v 9)),
    (13, .bool, .cmp .neq (.v 4) (.v 10)),
    (12, .bool, .cmp .neq (.v 5) (.v 11))],
    [(.v 17, true), (.v 16, false), (.v 15, false), (.v 14, false), (.v 13, false), (.v 12, false)], [.v 18]⟩)
  (.leaf ⟨[(17, .bool, .cmp .neq (.v 0) (.v 6)),
    (16, .bool, .cmp .neq (.v 1) (.v 7)),
    (15, .bool, .cmp .neq (.v 2) (.v 8)),
    (14, .bool, .cmp .neq (.v 3) (.v 9)),
    (13, .bool, .cmp .neq (.v 4) (.v 10)),
    (12, .bool, .cmp .neq (.v 5) (.v 11))],
    [(.v 17, false), (.v 16, false), (.v 15, false), (.v 14, false), (.v 13, false), (.v 12, false)], [.c 0]⟩))))))
theorem chk_less : checkFn Try.prog [] su_less 400 Try.f9 (fun _ => t_less0) = true := by kernel_rfl
theorem ok_less : SummOK Try.prog 9 su_less (Phi 9) := by
  refine summ_fn (Φ := Phi) 400 (fun _ => t_less0) Try.func9 tbl_nil chk_less ?_
  intro al hal l hl ρ hk hs ha
  have hn : su_less.inKinds.length = 12 := rfl
  have hr : row ρ 12 = [ρ 0, ρ 1, ρ 2, ρ 3, ρ 4, ρ 5, ρ 6, ρ 7, ρ 8, ρ 9, ρ 10, ρ 11] := rfl
  rw [hn, hr] at hk ⊢
  simp only [su_less, Summ.inKinds, List.flatMap_cons, List.flatMap_nil, List.replicate, List.cons_append, List.nil_append, List.append_nil, holdsAll, K.holds] at hk
  obtain ⟨b0, b1, b2, b3, b4, b5, b6, b7, b8, b9, b10, b11, _⟩ := hk
  simp only [t_less0, CT.leaves, List.cons_append, List.nil_append, List.mem_cons, List.not_mem_nil, or_false] at hl
  rcases hl with rfl | rfl | rfl | rfl | rfl | rfl | rfl
  · simp only [satTr_cons, satTr_nil, sv_lss, sv_leq, sv_gtr, sv_geq, sv_eql, sv_neq, sv_not, sv_beq, sv_pick, sv_add, sv_sub, sv_fn, sv_eqs, E.den, List.map, K.holds] at hs
    simp only [asrOK_cons, asrOK_nil, if_true, if_false, Bool.false_eq_true, E.den] at ha
    obtain ⟨⟨h13, k13⟩, ⟨h12, k12⟩, _⟩ := hs
    obtain ⟨a0, _⟩ := ha
    refine dec_one (p := val [ρ 0, ρ 1, ρ 2, ρ 3, ρ 4, ρ 5] < val [ρ 6, ρ 7, ρ 8, ρ 9, ρ 10, ρ 11]) (z := ρ 13) ?_
    simp only [val, q, List.cons.injEq, and_true]
    omega
  · simp only [satTr_cons, satTr_nil, sv_lss, sv_leq, sv_gtr, sv_geq, sv_eql, sv_neq, sv_not, sv_beq, sv_pick, sv_add, sv_sub, sv_fn, sv_eqs, E.den, List.map, K.holds] at hs
    simp only [asrOK_cons, asrOK_nil, if_true, if_false, Bool.false_eq_true, E.den] at ha
    obtain ⟨⟨h14, k14⟩, ⟨h13, k13⟩, ⟨h12, k12⟩, _⟩ := hs
    obtain ⟨a0, a1, _⟩ := ha
    refine dec_one (p := val [ρ 0, ρ 1, ρ 2, ρ 3, ρ 4, ρ 5] < val [ρ 6, ρ 7, ρ 8, ρ 9, ρ 10, ρ 11]) (z := ρ 14) ?_
    simp only [val, q, List.cons.injEq, and_true]
    omega
  · simp only [satTr_cons, satTr_nil, sv_lss, sv_leq, sv_gtr, sv_geq, sv_eql, sv_neq, sv_not, sv_beq, sv_pick, sv_add, sv_sub, sv_fn, sv_eqs, E.den, List.map, K.holds] at hs
    simp only [asrOK_cons, asrOK_nil, if_true, if_false, Bool.false_eq_true, E.den] at ha
    obtain ⟨⟨h15, k15⟩, ⟨h14, k14⟩, ⟨h13, k13⟩, ⟨h12, k12⟩, _⟩ := hs
    obtain ⟨a0, a1, a2, _⟩ := ha
    refine dec_one (p := val [ρ 0, ρ 1, ρ 2, ρ 3, ρ 4, ρ 5] < val [ρ 6, ρ 7, ρ 8, ρ 9, ρ 10, ρ 11]) (z := ρ 15) ?_
    simp only [val, q, List.cons.injEq, and_true]
    omega
  · simp only [satTr_cons, satTr_nil, sv_lss, sv_leq, sv_gtr, sv_geq, sv_eql, sv_neq, sv_not, sv_beq, sv_pick, sv_add, sv_sub, sv_fn, sv_eqs, E.den, List.map, K.holds] at hs
    simp only [asrOK_cons, asrOK_nil, if_true, if_false, Bool.false_eq_true, E.den] at ha
    obtain ⟨⟨h16, k16⟩, ⟨h15, k15⟩, ⟨h14, k14⟩, ⟨h13, k13⟩, ⟨h12, k12⟩, _⟩ := hs
    obtain ⟨a0, a1, a2, a3, _⟩ := ha
    refine dec_one (p := val [ρ 0, ρ 1, ρ 2, ρ 3, ρ 4, ρ 5] < val [ρ 6, ρ 7, ρ 8, ρ 9, ρ 10, ρ 11]) (z := ρ 16) ?_
    simp only [val, q, List.cons.injEq, and_true]
    omega
  · simp only [satTr_cons, satTr_nil, sv_lss, sv_leq, sv_gtr, sv_geq, sv_eql, sv_neq, sv_not, sv_beq, sv_pick, sv_add, sv_sub, sv_fn, sv_eqs, E.den, List.map, K.holds] at hs
    simp only [asrOK_cons, asrOK_nil, if_true, if_false, Bool.false_eq_true, E.den] at ha
    obtain ⟨⟨h17, k17⟩, ⟨h16, k16⟩, ⟨h15, k15⟩, ⟨h14, k14⟩, ⟨h13, k13⟩, ⟨h12, k12⟩, _⟩ := hs
    obtain ⟨a0, a1, a2, a3, a4, _⟩ := ha
    refine dec_one (p := val [ρ 0, ρ 1, ρ 2, ρ 3, ρ 4, ρ 5] < val [ρ 6, ρ 7, ρ 8, ρ 9, ρ 10, ρ 11]) (z := ρ 17) ?_
    simp only [val, q, List.cons.injEq, and_true]
    omega
  · simp only [satTr_cons, satTr_nil, sv_lss, sv_leq, sv_gtr, sv_geq, sv_eql, sv_neq, sv_not, sv_beq, sv_pick, sv_add, sv_sub, sv_fn, sv_eqs, E.den, List.map, K.holds] at hs
    simp only [asrOK_cons, asrOK_nil, if_true, if_false, Bool.false_eq_true, E.den] at ha
    obtain ⟨⟨h18, k18⟩, ⟨h17, k17⟩, ⟨h16, k16⟩, ⟨h15, k15⟩, ⟨h14, k14⟩, ⟨h13, k13⟩, ⟨h12, k12⟩, _⟩ := hs
    obtain ⟨a0, a1, a2, a3, a4, a5, _⟩ := ha
    refine dec_one (p := val [ρ 0, ρ 1, ρ 2, ρ 3, ρ 4, ρ 5] < val [ρ 6, ρ 7, ρ 8, ρ 9, ρ 10, ρ 11]) (z := ρ 18) ?_
    simp only [val, q, List.cons.injEq, and_true]
    omega
  · simp only [satTr_cons, satTr_nil, sv_lss, sv_leq, sv_gtr, sv_geq, sv_eql, sv_neq, sv_not, sv_beq, sv_pick, sv_add, sv_sub, sv_fn, sv_eqs, E.den, List.map, K.holds] at hs
    simp only [asrOK_cons, asrOK_nil, if_true, if_false, Bool.false_eq_true, E.den] at ha
    obtain ⟨⟨h17, k17⟩, ⟨h16, k16⟩, ⟨h15, k15⟩, ⟨h14, k14⟩, ⟨h13, k13⟩, ⟨h12, k12⟩, _⟩ := hs
    obtain ⟨a0, a1, a2, a3, a4, a5, _⟩ := ha
    refine dec_one (p := val [ρ 0, ρ 1, ρ 2, ρ 3, ρ 4, ρ 5] < val [ρ 6, ρ 7, ρ 8, ρ 9, ρ 10, ρ 11]) (z := 0) ?_
    simp only [val, q, List.cons.injEq, and_true]
    omega

/-! ### prime -/
def su_prime : Summ := ⟨[], none, [.slc 6]⟩
def t_prime0 : CT := .leaf ⟨[],
    [], [.c 13402431016077863595, .c 2210141511517208575, .c 7435674573564081700, .c 7239337960414712511, .c 5412103778470702295, .c 1873798617647539866]⟩
theorem chk_prime : checkFn Try.prog [] su_prime 400 Try.f10 (fun _ => t_prime0) = true := by kernel_rfl
theorem ok_prime : SummOK Try.prog 10 su_prime (Phi 10) := by
  refine summ_fn (Φ := Phi) 400 (fun _ => t_prime0) Try.func10 tbl_nil chk_prime ?_
  intro al hal l hl ρ hk hs ha
  have hn : su_prime.inKinds.length = 0 := rfl
  have hr : row ρ 0 = [] := rfl
  rw [hn, hr] at hk ⊢
  simp only [su_prime, Summ.inKinds, List.flatMap_cons, List.flatMap_nil, List.replicate, List.cons_append, List.nil_append, List.append_nil, holdsAll, K.holds] at hk
  simp only [t_prime0, CT.leaves, List.cons_append, List.nil_append, List.mem_cons, List.not_mem_nil, or_false] at hl
  subst hl
  simp only [satTr_cons, satTr_nil, sv_lss, sv_leq, sv_gtr, sv_geq, sv_eql, sv_neq, sv_not, sv_beq, sv_pick, sv_add, sv_sub, sv_fn, sv_eqs, E.den, List.map, K.holds] at hs
  simp only [asrOK_cons, asrOK_nil, if_true, if_false, Bool.false_eq_true, E.den] at ha
  clear hs
  clear ha
  change wds 6 q = [13402431016077863595, 2210141511517208575, 7435674573564081700, 7239337960414712511, 5412103778470702295, 1873798617647539866]
  kernel_rfl

/-! ### zero -/
def su_zero : Summ := ⟨[.ptr 6], (some 0), [.arg 0]⟩
def t_zero0 : CT := .leaf ⟨[],
    [], [.c 0, .c 0, .c 0, .c 0, .c 0, .c 0]⟩
theorem chk_zero : checkFn Try.prog [] su_zero 400 Try.f38 (fun _ => t_zero0) = true := by kernel_rfl
theorem ok_zero : SummOK Try.prog 38 su_zero (Phi 38) := by
  refine summ_fn (Φ := Phi) 400 (fun _ => t_zero0) Try.func38 tbl_nil chk_zero ?_
  intro al hal l hl ρ hk hs ha
  have hn : su_zero.inKinds.length = 6 := rfl
  have hr : row ρ 6 = [ρ 0, ρ 1, ρ 2, ρ 3, ρ 4, ρ 5] := rfl
  rw [hn, hr] at hk ⊢
  simp only [su_zero, Summ.inKinds, List.flatMap_cons, List.flatMap_nil, List.replicate, List.cons_append, List.nil_append, List.append_nil, holdsAll, K.holds] at hk
  obtain ⟨b0, b1, b2, b3, b4, b5, _⟩ := hk
  simp only [t_zero0, CT.leaves, List.cons_append, List.nil_append, List.mem_cons, List.not_mem_nil, or_false] at hl
  subst hl
  simp only [satTr_cons, satTr_nil, sv_lss, sv_leq, sv_gtr, sv_geq, sv_eql, sv_neq, sv_not, sv_beq, sv_pick, sv_add, sv_sub, sv_fn, sv_eqs, E.den, List.map, K.holds] at hs
  simp only [asrOK_cons, asrOK_nil, if_true, if_false, Bool.false_eq_true, E.den] at ha
  clear hs
  clear ha
  change wds 6 0 = [0, 0, 0, 0, 0, 0]
  kernel_rfl

/-! ### isZero -/
def su_isZero : Summ := ⟨[.ptr 6], none, [.sc .bool]⟩
def t_isZero0 : CT := .leaf ⟨[(11, .bool, .cmp .eql (.v 10) (.c 0)),
    (10, .i .u64, .bin .or .u64 (.v 9) (.v 0)),
    (9, .i .u64, .bin .or .u64 (.v 8) (.v 1)),
    (8, .i .u64, .bin .or .u64 (.v 7) (.v 2)),
    (7, .i .u64, .bin .or .u64 (.v 6) (.v 3)),
    (6, .i .u64, .bin .or .u64 (.v 5) (.v 4))],
    [], [.v 11]⟩
theorem chk_isZero : checkFn Try.prog [] su_isZero 400 Try.f25 (fun _ => t_isZero0) = true := by kernel_rfl
theorem ok_isZero : SummOK Try.prog 25 su_isZero (Phi 25) := by
  refine summ_fn (Φ := Phi) 400 (fun _ => t_isZero0) Try.func25 tbl_nil chk_isZero ?_
  intro al hal l hl ρ hk hs ha
  have hn : su_isZero.inKinds.length = 6 := rfl
  have hr : row ρ 6 = [ρ 0, ρ 1, ρ 2, ρ 3, ρ 4, ρ 5] := rfl
  rw [hn, hr] at hk ⊢
  simp only [su_isZero, Summ.inKinds, List.flatMap_cons, List.flatMap_nil, List.replicate, List.cons_append, List.nil_append, List.append_nil, holdsAll, K.holds] at hk
  obtain ⟨b0, b1, b2, b3, b4, b5, _⟩ := hk
  simp only [t_isZero0, CT.leaves, List.cons_append, List.nil_append, List.mem_cons, List.not_mem_nil, or_false] at hl
  subst hl
  simp only [satTr_cons, satTr_nil, sv_lss, sv_leq, sv_gtr, sv_geq, sv_eql, sv_neq, sv_not, sv_beq, sv_pick, sv_add, sv_sub, sv_fn, sv_eqs, E.den, List.map, K.holds] at hs
  simp only [asrOK_cons, asrOK_nil, if_true, if_false, Bool.false_eq_true, E.den] at ha
  obtain ⟨⟨h11, k11⟩, ⟨h10, k10⟩, ⟨h9, k9⟩, ⟨h8, k8⟩, ⟨h7, k7⟩, ⟨h6, k6⟩, _⟩ := hs
  clear ha
  have z6 : ρ 6 = 0 ↔ ρ 5 = 0 ∧ ρ 4 = 0 := or_zero b5 b4 h6
  have z7 : ρ 7 = 0 ↔ ρ 6 = 0 ∧ ρ 3 = 0 := or_zero k6 b3 h7
  have z8 : ρ 8 = 0 ↔ ρ 7 = 0 ∧ ρ 2 = 0 := or_zero k7 b2 h8
  have z9 : ρ 9 = 0 ↔ ρ 8 = 0 ∧ ρ 1 = 0 := or_zero k8 b1 h9
  have z10 : ρ 10 = 0 ↔ ρ 9 = 0 ∧ ρ 0 = 0 := or_zero k9 b0 h10
  refine dec_one (p := val [ρ 0, ρ 1, ρ 2, ρ 3, ρ 4, ρ 5] = 0) (z := ρ 11) ?_
  simp only [val, q, List.cons.injEq, and_true]
  clear h6 h7 h8 h9 h10
  omega

/-! ### neg -/
def su_neg : Summ := ⟨[.ptr 6, .ptr 6], (some 0), [.arg 0]⟩
def t_neg0 : CT := .node (.v 12)
  (.leaf ⟨[(18, .i .u64, .fn 38 [.v 0, .v 1, .v 2, .v 3, .v 4, .v 5] 5),
    (17, .i .u64, .fn 38 [.v 0, .v 1, .v 2, .v 3, .v 4, .v 5] 4),
    (16, .i .u64, .fn 38 [.v 0, .v 1, .v 2, .v 3, .v 4, .v 5] 3),
    (15, .i .u64, .fn 38 [.v 0, .v 1, .v 2, .v 3, .v 4, .v 5] 2),
    (14, .i .u64, .fn 38 [.v 0, .v 1, .v 2, .v 3, .v 4, .v 5] 1),
    (13, .i .u64, .fn 38 [.v 0, .v 1, .v 2, .v 3, .v 4, .v 5] 0),
    (12, .bool, .fn 25 [.v 6, .v 7, .v 8, .v 9, .v 10, .v 11] 0)],
    [(.v 12, true)], [.v 13, .v 14, .v 15, .v 16, .v 17, .v 18]⟩)
  (.leaf ⟨[(24, .bit, .fn 39 [.c 1873798617647539866, .v 11, .v 22] 1),
    (23, .i .u64, .fn 39 [.c 1873798617647539866, .v 11, .v 22] 0),
    (22, .bit, .fn 39 [.c 5412103778470702295, .v 10, .v 20] 1),
    (21, .i .u64, .fn 39 [.c 5412103778470702295, .v 10, .v 20] 0),
    (20, .bit, .fn 39 [.c 7239337960414712511, .v 9, .v 18] 1),
    (19, .i .u64, .fn 39 [.c 7239337960414712511, .v 9, .v 18] 0),
    (18, .bit, .fn 39 [.c 7435674573564081700, .v 8, .v 16] 1),
    (17, .i .u64, .fn 39 [.c 7435674573564081700, .v 8, .v 16] 0),
    (16, .bit, .fn 39 [.c 2210141511517208575, .v 7, .v 14] 1),
    (15, .i .u64, .fn 39 [.c 2210141511517208575, .v 7, .v 14] 0),
    (14, .bit, .fn 39 [.c 13402431016077863595, .v 6, .c 0] 1),
    (13, .i .u64, .fn 39 [.c 13402431016077863595, .v 6, .c 0] 0),
    (12, .bool, .fn 25 [.v 6, .v 7, .v 8, .v 9, .v 10, .v 11] 0)],
    [(.v 12, false)], [.v 13, .v 15, .v 17, .v 19, .v 21, .v 23]⟩)
def t_neg1 : CT := .node (.v 12)
  (.leaf ⟨[(18, .i .u64, .fn 38 [.v 6, .v 7, .v 8, .v 9, .v 10, .v 11] 5),
    (17, .i .u64, .fn 38 [.v 6, .v 7, .v 8, .v 9, .v 10, .v 11] 4),
    (16, .i .u64, .fn 38 [.v 6, .v 7, .v 8, .v 9, .v 10, .v 11] 3),
    (15, .i .u64, .fn 38 [.v 6, .v 7, .v 8, .v 9, .v 10, .v 11] 2),
    (14, .i .u64, .fn 38 [.v 6, .v 7, .v 8, .v 9, .v 10, .v 11] 1),
    (13, .i .u64, .fn 38 [.v 6, .v 7, .v 8, .v 9, .v 10, .v 11] 0),
    (12, .bool, .fn 25 [.v 6, .v 7, .v 8, .v 9, .v 10, .v 11] 0)],
    [(.v 12, true)], [.v 13, .v 14, .v 15, .v 16, .v 17, .v 18]⟩)
  (.leaf ⟨[(24, .bit, .fn 39 [.c 1873798617647539866, .v 11, .v 22] 1),
    (23, .i .u64, .fn 39 [.c 1873798617647539866, .v 11, .v 22] 0),
    (22, .bit, .fn 39 [.c 5412103778470702295, .v 10, .v 20] 1),
    (21, .i .u64, .fn 39 [.c 5412103778470702295, .v 10, .v 20] 0),
    (20, .bit, .fn 39 [.c 7239337960414712511, .v 9, .v 18] 1),
    (19, .i .u64, .fn 39 [.c 7239337960414712511, .v 9, .v 18] 0),
    (18, .bit, .fn 39 [.c 7435674573564081700, .v 8, .v 16] 1),
    (17, .i .u64, .fn 39 [.c 7435674573564081700, .v 8, .v 16] 0),
    (16, .bit, .fn 39 [.c 2210141511517208575, .v 7, .v 14] 1),
    (15, .i .u64, .fn 39 [.c 2210141511517208575, .v 7, .v 14] 0),
    (14, .bit, .fn 39 [.c 13402431016077863595, .v 6, .c 0] 1),
    (13, .i .u64, .fn 39 [.c 13402431016077863595, .v 6, .c 0] 0),
    (12, .bool, .fn 25 [.v 6, .v 7, .v 8, .v 9, .v 10, .v 11] 0)],
    [(.v 12, false)], [.v 13, .v 15, .v 17, .v 19, .v 21, .v 23]⟩)
theorem chk_neg : checkFn Try.prog [(39, addSub), (25, su_isZero), (38, su_zero)] su_neg 400 Try.f28 (fun al => match al with | none => t_neg0 | some _ => t_neg1) = true := by kernel_rfl
theorem ok_neg : SummOK Try.prog 28 su_neg (Phi 28) := by
  refine summ_fn (Φ := Phi) 400 (fun al => match al with | none => t_neg0 | some _ => t_neg1) Try.func28 (tbl_cons ok_sub64 (tbl_cons ok_isZero (tbl_cons ok_zero tbl_nil))) chk_neg ?_
  intro al hal l hl ρ hk hs ha
  have hn : su_neg.inKinds.length = 12 := rfl
  have hr : row ρ 12 = [ρ 0, ρ 1, ρ 2, ρ 3, ρ 4, ρ 5, ρ 6, ρ 7, ρ 8, ρ 9, ρ 10, ρ 11] := rfl
  rw [hn, hr] at hk ⊢
  simp only [su_neg, Summ.inKinds, List.flatMap_cons, List.flatMap_nil, List.replicate, List.cons_append, List.nil_append, List.append_nil, holdsAll, K.holds] at hk
  obtain ⟨b0, b1, b2, b3, b4, b5, b6, b7, b8, b9, b10, b11, _⟩ := hk
  cases al with
  | none =>
    simp only [t_neg0, CT.leaves, List.cons_append, List.nil_append, List.mem_cons, List.not_mem_nil, or_false] at hl
    rcases hl with rfl | rfl
    · simp only [satTr_cons, satTr_nil, sv_lss, sv_leq, sv_gtr, sv_geq, sv_eql, sv_neq, sv_not, sv_beq, sv_pick, sv_add, sv_sub, sv_fn, sv_eqs, E.den, List.map, K.holds] at hs
      simp only [asrOK_cons, asrOK_nil, if_true, if_false, Bool.false_eq_true, E.den] at ha
      obtain ⟨⟨h18, k18⟩, ⟨h17, k17⟩, ⟨h16, k16⟩, ⟨h15, k15⟩, ⟨h14, k14⟩, ⟨h13, k13⟩, ⟨h12, k12⟩, _⟩ := hs
      obtain ⟨a0, _⟩ := ha
      have e12 : ρ 12 = b2i (decide (val [ρ 6, ρ 7, ρ 8, ρ 9, ρ 10, ρ 11] = 0)) := h12
      rw [st_dec] at e12
      have g13 : [ρ 13, ρ 14, ρ 15, ρ 16, ρ 17, ρ 18] = wds 6 0 := get6 rfl h13 h14 h15 h16 h17 h18
      change wds 6 (eNeg q (val [ρ 6, ρ 7, ρ 8, ρ 9, ρ 10, ρ 11])) = [ρ 13, ρ 14, ρ 15, ρ 16, ρ 17, ρ 18]
      have hz : val [ρ 6, ρ 7, ρ 8, ρ 9, ρ 10, ρ 11] = 0 := by omega
      rw [g13, eNeg, if_pos hz]
    · simp only [satTr_cons, satTr_nil, sv_lss, sv_leq, sv_gtr, sv_geq, sv_eql, sv_neq, sv_not, sv_beq, sv_pick, sv_add, sv_sub, sv_fn, sv_eqs, E.den, List.map, K.holds] at hs
      simp only [asrOK_cons, asrOK_nil, if_true, if_false, Bool.false_eq_true, E.den] at ha
      obtain ⟨⟨h24, k24⟩, ⟨h23, k23⟩, ⟨h22, k22⟩, ⟨h21, k21⟩, ⟨h20, k20⟩, ⟨h19, k19⟩, ⟨h18, k18⟩, ⟨h17, k17⟩, ⟨h16, k16⟩, ⟨h15, k15⟩, ⟨h14, k14⟩, ⟨h13, k13⟩, ⟨h12, k12⟩, _⟩ := hs
      obtain ⟨a0, _⟩ := ha
      have e12 : ρ 12 = b2i (decide (val [ρ 6, ρ 7, ρ 8, ρ 9, ρ 10, ρ 11] = 0)) := h12
      rw [st_dec] at e12
      have r13 : ρ 13 - 18446744073709551616 * ρ 14 = 13402431016077863595 - ρ 6 - 0 := sbb (by decide) b6 (by decide) h13 h14
      have r15 : ρ 15 - 18446744073709551616 * ρ 16 = 2210141511517208575 - ρ 7 - ρ 14 := sbb (by decide) b7 k14 h15 h16
      have r17 : ρ 17 - 18446744073709551616 * ρ 18 = 7435674573564081700 - ρ 8 - ρ 16 := sbb (by decide) b8 k16 h17 h18
      have r19 : ρ 19 - 18446744073709551616 * ρ 20 = 7239337960414712511 - ρ 9 - ρ 18 := sbb (by decide) b9 k18 h19 h20
      have r21 : ρ 21 - 18446744073709551616 * ρ 22 = 5412103778470702295 - ρ 10 - ρ 20 := sbb (by decide) b10 k20 h21 h22
      have r23 : ρ 23 - 18446744073709551616 * ρ 24 = 1873798617647539866 - ρ 11 - ρ 22 := sbb (by decide) b11 k22 h23 h24
      change wds 6 (eNeg q (val [ρ 6, ρ 7, ρ 8, ρ 9, ρ 10, ρ 11])) = [ρ 13, ρ 15, ρ 17, ρ 19, ρ 21, ρ 23]
      have hz : ¬ val [ρ 6, ρ 7, ρ 8, ρ 9, ρ 10, ρ 11] = 0 := by omega
      rw [eNeg, if_neg hz]
      clear e12
      refine wds_eq (u64s_cons k13 (u64s_cons k15 (u64s_cons k17 (u64s_cons k19 (u64s_cons k21 (u64s_cons k23 u64s_nil)))))) rfl (ρ 24) ?_
      simp only [val, big, q]
      omega
  | some j =>
    simp only [t_neg1, CT.leaves, List.cons_append, List.nil_append, List.mem_cons, List.not_mem_nil, or_false] at hl
    rcases hl with rfl | rfl
    · simp only [satTr_cons, satTr_nil, sv_lss, sv_leq, sv_gtr, sv_geq, sv_eql, sv_neq, sv_not, sv_beq, sv_pick, sv_add, sv_sub, sv_fn, sv_eqs, E.den, List.map, K.holds] at hs
      simp only [asrOK_cons, asrOK_nil, if_true, if_false, Bool.false_eq_true, E.den] at ha
      obtain ⟨⟨h18, k18⟩, ⟨h17, k17⟩, ⟨h16, k16⟩, ⟨h15, k15⟩, ⟨h14, k14⟩, ⟨h13, k13⟩, ⟨h12, k12⟩, _⟩ := hs
      obtain ⟨a0, _⟩ := ha
      have e12 : ρ 12 = b2i (decide (val [ρ 6, ρ 7, ρ 8, ρ 9, ρ 10, ρ 11] = 0)) := h12
      rw [st_dec] at e12
      have g13 : [ρ 13, ρ 14, ρ 15, ρ 16, ρ 17, ρ 18] = wds 6 0 := get6 rfl h13 h14 h15 h16 h17 h18
      change wds 6 (eNeg q (val [ρ 6, ρ 7, ρ 8, ρ 9, ρ 10, ρ 11])) = [ρ 13, ρ 14, ρ 15, ρ 16, ρ 17, ρ 18]
      have hz : val [ρ 6, ρ 7, ρ 8, ρ 9, ρ 10, ρ 11] = 0 := by omega
      rw [g13, eNeg, if_pos hz]
    · simp only [satTr_cons, satTr_nil, sv_lss, sv_leq, sv_gtr, sv_geq, sv_eql, sv_neq, sv_not, sv_beq, sv_pick, sv_add, sv_sub, sv_fn, sv_eqs, E.den, List.map, K.holds] at hs
      simp only [asrOK_cons, asrOK_nil, if_true, if_false, Bool.false_eq_true, E.den] at ha
      obtain ⟨⟨h24, k24⟩, ⟨h23, k23⟩, ⟨h22, k22⟩, ⟨h21, k21⟩, ⟨h20, k20⟩, ⟨h19, k19⟩, ⟨h18, k18⟩, ⟨h17, k17⟩, ⟨h16, k16⟩, ⟨h15, k15⟩, ⟨h14, k14⟩, ⟨h13, k13⟩, ⟨h12, k12⟩, _⟩ := hs
      obtain ⟨a0, _⟩ := ha
      have e12 : ρ 12 = b2i (decide (val [ρ 6, ρ 7, ρ 8, ρ 9, ρ 10, ρ 11] = 0)) := h12
      rw [st_dec] at e12
      have r13 : ρ 13 - 18446744073709551616 * ρ 14 = 13402431016077863595 - ρ 6 - 0 := sbb (by decide) b6 (by decide) h13 h14
      have r15 : ρ 15 - 18446744073709551616 * ρ 16 = 2210141511517208575 - ρ 7 - ρ 14 := sbb (by decide) b7 k14 h15 h16
      have r17 : ρ 17 - 18446744073709551616 * ρ 18 = 7435674573564081700 - ρ 8 - ρ 16 := sbb (by decide) b8 k16 h17 h18
      have r19 : ρ 19 - 18446744073709551616 * ρ 20 = 7239337960414712511 - ρ 9 - ρ 18 := sbb (by decide) b9 k18 h19 h20
      have r21 : ρ 21 - 18446744073709551616 * ρ 22 = 5412103778470702295 - ρ 10 - ρ 20 := sbb (by decide) b10 k20 h21 h22
      have r23 : ρ 23 - 18446744073709551616 * ρ 24 = 1873798617647539866 - ρ 11 - ρ 22 := sbb (by decide) b11 k22 h23 h24
      change wds 6 (eNeg q (val [ρ 6, ρ 7, ρ 8, ρ 9, ρ 10, ρ 11])) = [ρ 13, ρ 15, ρ 17, ρ 19, ρ 21, ρ 23]
      have hz : ¬ val [ρ 6, ρ 7, ρ 8, ρ 9, ρ 10, ρ 11] = 0 := by omega
      rw [eNeg, if_neg hz]
      clear e12
      refine wds_eq (u64s_cons k13 (u64s_cons k15 (u64s_cons k17 (u64s_cons k19 (u64s_cons k21 (u64s_cons k23 u64s_nil)))))) rfl (ρ 24) ?_
      simp only [val, big, q]
      omega

/-! ### small -/
def su_small : Summ := ⟨[.ptr 6], none, [.sc .bool]⟩
def t_small0 : CT := .node (.v 6)
  (.leaf ⟨[(6, .bool, .cmp .lss (.v 5) (.c 1873798617647539866))],
    [(.v 6, true)], [.c 1]⟩)
  (.node (.v 7)
  (.node (.v 8)
  (.leaf ⟨[(8, .bool, .cmp .lss (.v 4) (.c 5412103778470702295)),
    (7, .bool, .cmp .eql (.v 5) (.c 1873798617647539866)),
    (6, .bool, .cmp .lss (.v 5) (.c 1873798617647539866))],
    [(.v 8, true), (.v 7, true), (.v 6, false)], [.c 1]⟩)
  (.node (.v 9)
  (.node (.v 10)
  (.leaf ⟨[(10, .bool, .cmp .lss (.v 3) (.c 7239337960414712511)),
    (9, .bool, .cmp .eql (.v 4) (.c 5412103778470702295)),
    (8, .bool, .cmp .lss (.v 4) (.c 5412103778470702295)),
    (7, .bool, .cmp .eql (.v 5) (.c 1873798617647539866)),
    (6, .bool, .cmp .lss (.v 5) (.c 1873798617647539866))],
    [(.v 10, true), (.v 9, true), (.v 8, false), (.v 7, true), (.v 6, false)], [.c 1]⟩)
  (.node (.v 11)
  (.node (.v 12)
  (.leaf ⟨[(12, .bool, .cmp .lss (.v 2) (.c 7435674573564081700)),
    (11, .bool, .cmp .eql (.v 3) (.c 7239337960414712511)),
    (10, .bool, .cmp .lss (.v 3) (.c 7239337960414712511)),
    (9, .bool, .cmp .eql (.v 4) (.c 5412103778470702295)),
    (8, .bool, .cmp .lss (.v 4) (.c 5412103778470702295)),
    (7, .bool, .cmp .eql (.v 5) (.c 1873798617647539866)),
    (6, .bool, .cmp .lss (.v 5) (.c 1873798617647539866))],
    [(.v 12, true), (.v 11, true), (.v 10, false), (.v 9, true), (.v 8, false), (.v 7, true), (.v 6, false)], [.c 1]⟩)
  (.node (.v 13)
  (.node (.v 14)
  (.leaf ⟨[(14, .bool, .cmp .lss (.v 1) (.c 2210141511517208575)),
    (13, .bool, .cmp .eql (.v 2) (.c 7435674573564081700)),
    (12, .bool, .cmp .lss (.v 2) (.c 7435674573564081700)),
    (11, .bool, .cmp .eql (.v 3) (.c 7239337960414712511)),
    (10, .bool, .cmp .lss (.v 3) (.c 7239337960414712511)),
    (9, .bool, .cmp .eql (.v 4) (.c 5412103778470702295)),
    (8, .bool, .cmp .lss (.v 4) (.c 5412103778470702295)),
    (7, .bool, .cmp .eql (.v 5) (.c 1873798617647539866)),
    (6, .bool, .cmp .lss (.v 5) (.c 1873798617647539866))],
    [(.v 14, true), (.v 13, true), (.v 12, false), (.v 11, true), (.v 10, false), (.v 9, true), (.v 8, false), (.v 7, true), (.v 6, false)], [.c 1]⟩)
  (.node (.v 15)
  (.leaf ⟨[(16, .bool, .cmp .lss (.v 0) (.c 13402431016077863595)),
    (15, .bool, .cmp .eql (.v 1) (.c 2210141511517208575)),
    (14, .bool, .cmp .lss (.v 1) (.c 2210141511517208575)),
    (13, .bool, .cmp .eql (.v 2) (.c 7435674573564081700)),
    (12, .bool, .cmp .lss (.v 2) (.c 7435674573564081700)),
    (11, .bool, .cmp .eql (.v 3) (.c 7239337960414712511)),
    (10, .bool, .cmp .lss (.v 3) (.c 7239337960414712511)),
    (9, .bool, .cmp .eql (.v 4) (.c 5412103778470702295)),
    (8, .bool, .cmp .lss (.v 4) (.c 5412103778470702295)),
    (7, .bool, .cmp .eql (.v 5) (.c 1873798617647539866)),
    (6, .bool, .cmp .lss (.v 5) (.c 1873798617647539866))],
    [(.v 15, true), (.v 14, false), (.v 13, true), (.v 12, false), (.v 11, true), (.v 10, false), (.v 9, true), (.v 8, false), (.v 7, true), (.v 6, false)], [.v 16]⟩)
  (.leaf ⟨[(15, .bool, .cmp .eql (.v 1) (.c 2210141511517208575)),
    (14, .bool, .cmp .lss (.v 1) (.c 2210141511517208575)),
    (13, .bool, .cmp .eql (.v 2) (.c 7435674573564081700)),
    (12, .bool, .cmp .lss (.v 2) (.c 7435674573564081700)),
    (11, .bool, .cmp .eql (.v 3) (.c 7239337960414712511)),
    (10, .bool, .cmp .lss (.v 3) (.c 7239337960414712511)),
    (9, .bool, .cmp .eql (.v 4) (.c 5412103778470702295)),
    (8, .bool, .cmp .lss (.v 4) (.c 5412103778470702295)),
    (7, .bool, .cmp .eql (.v 5) (.c 1873798617647539866)),
    (6, .bool, .cmp .lss (.v 5) (.c 1873798617647539866))],
    [(.v 15, false), (.v 14, false), (.v 13, true), (.v 12, false), (.v 11, true), (.v 10, false), (.v 9, true), (.v 8, false), (.v 7, true), (.v 6, false)], [.c 0]⟩)))
  (.leaf ⟨[(13, .bool, .cmp .eql (.v 2) (.c 7435674573564081700)),
    (12, .bool, .cmp .lss (.v 2) (.c 7435674573564081700)),
    (11, .bool, .cmp .eql (.v 3) (.c 7239337960414712511)),
    (10, .bool, .cmp .lss (.v 3) (.c 7239337960414712511)),
    (9, .bool, .cmp .eql (.v 4) (.c 5412103778470702295)),
    (8, .bool, .cmp .lss (.v 4) (.c 5412103778470702295)),
    (7, .bool, .cmp .eql (.v 5) (.c 1873798617647539866)),
    (6, .bool, .cmp .lss (.v 5) (.c 1873798617647539866))],
    [(.v 13, false), (.v 12, false), (.v 11, true), (.v 10, false), (.v 9, true), (.v 8, false), (.v 7, true), (.v 6, false)], [.c 0]⟩)))
  (.leaf ⟨[(11, .bool, .cmp .eql (.v 3) (.c 7239337960414712511)),
    (10, .bool, .cmp .lss (.v 3) (.c 7239337960414712511)),
    (9, .bool, .cmp .eql (.v 4) (.c 5412103778470702295)),
    (8, .bool, .cmp .lss (.v 4) (.c 5412103778470702295)),
    (7, .bool, .cmp .eql (.v 5) (.c 1873798617647539866)),
    (6, .bool, .cmp .lss (.v 5) (.c 1873798617647539866))],
    [(.v 11, false), (.v 10, false), (.v 9, true), (.v 8, false), (.v 7, true), (.v 6, false)], [.c 0]⟩)))
  (.leaf ⟨[(9, .bool, .cmp .eql (.v 4) (.c 5412103778470702295)),
    (8, .bool, .cmp .lss (.v 4) (.c 5412103778470702295)),
    (7, .bool, .cmp .eql (.v 5) (.c 1873798617647539866)),
    (6, .bool, .cmp .lss (.v 5) (.c 1873798617647539866))],
    [(.v 9, false), (.v 8, false), (.v 7, true), (.v 6, false)], [.c 0]⟩)))
  (.leaf ⟨[(7, .bool, .cmp .eql (.v 5) (.c 1873798617647539866)),
    (6, .bool, .cmp .lss (.v 5) (.c 1873798617647539866))],
    [(.v 7, false), (.v 6, false)], [.c 0]⟩))
theorem chk_small : checkFn Try.prog [] su_small 400 Try.f41 (fun _ => t_small0) = true := by kernel_rfl
theorem ok_small : SummOK Try.prog 41 su_small (Phi 41) := by
  refine summ_fn (Φ := Phi) 400 (fun _ => t_small0) Try.func41 tbl_nil chk_small ?_
  intro al hal l hl ρ hk hs ha
  have hn : su_small.inKinds.length = 6 := rfl
  have hr : row ρ 6 = [ρ 0, ρ 1, ρ 2, ρ 3, ρ 4, ρ 5] := rfl
  rw [hn, hr] at hk ⊢
  simp only [su_small, Summ.inKinds, List.flatMap_cons, List.flatMap_nil, List.replicate, List.cons_append, List.nil_append, List.append_nil, holdsAll, K.holds] at hk
  obtain ⟨b0, b1, b2, b3, b4, b5, _⟩ := hk
  simp only [t_small0, CT.leaves, List.cons_append, List.nil_append, List.mem_cons, List.not_mem_nil, or_false] at hl
  rcases hl with rfl | rfl | rfl | rfl | rfl | rfl | rfl | rfl | rfl | rfl | rfl
  · simp only [satTr_cons, satTr_nil, sv_lss, sv_leq, sv_gtr, sv_geq, sv_eql, sv_neq, sv_not, sv_beq, sv_pick, sv_add, sv_sub, sv_fn, sv_eqs, E.den, List.map, K.holds] at hs
    simp only [asrOK_cons, asrOK_nil, if_true, if_false, Bool.false_eq_true, E.den] at ha
    obtain ⟨⟨h6, k6⟩, _⟩ := hs
    obtain ⟨a0, _⟩ := ha
    refine dec_one (p := val [ρ 0, ρ 1, ρ 2, ρ 3, ρ 4, ρ 5] < q) (z := 1) ?_
    simp only [val, q, List.cons.injEq, and_true]
    omega
  · simp only [satTr_cons, satTr_nil, sv_lss, sv_leq, sv_gtr, sv_geq, sv_eql, sv_neq, sv_not, sv_beq, sv_pick, sv_add, sv_sub, sv_fn, sv_eqs, E.den, List.map, K.holds] at hs
    simp only [asrOK_cons, asrOK_nil, if_true, if_false, Bool.false_eq_true, E.den] at ha
    obtain ⟨⟨h8, k8⟩, ⟨h7, k7⟩, ⟨h6, k6⟩, _⟩ := hs
    obtain ⟨a0, a1, a2, _⟩ := ha
    refine dec_one (p := val [ρ 0, ρ 1, ρ 2, ρ 3, ρ 4, ρ 5] < q) (z := 1) ?_
    simp only [val, q, List.cons.injEq, and_true]
    omega
  · simp only [satTr_cons, satTr_nil, sv_lss, sv_leq, sv_gtr, sv_geq, sv_eql, sv_neq, sv_not, sv_beq, sv_pick, sv_add, sv_sub, sv_fn, sv_eqs, E.den, List.map, K.holds] at hs
    simp only [asrOK_cons, asrOK_nil, if_true, if_false, Bool.false_eq_true, E.den] at ha
    obtain ⟨⟨h10, k10⟩, ⟨h9, k9⟩, ⟨h8, k8⟩, ⟨h7, k7⟩, ⟨h6, k6⟩, _⟩ := hs
    obtain ⟨a0, a1, a2, a3, a4, _⟩ := ha
    refine dec_one (p := val [ρ 0, ρ 1, ρ 2, ρ 3, ρ 4, ρ 5] < q) (z := 1) ?_
    simp only [val, q, List.cons.injEq, and_true]
    omega
  · simp only [satTr_cons, satTr_nil, sv_lss, sv_leq, sv_gtr, sv_geq, sv_eql, sv_neq, sv_not, sv_beq, sv_pick, sv_add, sv_sub, sv_fn, sv_eqs, E.den, List.map, K.holds] at hs
    simp only [asrOK_cons, asrOK_nil, if_true, if_false, Bool.false_eq_true, E.den] at ha
    obtain ⟨⟨h12, k12⟩, ⟨h11, k11⟩, ⟨h10, k10⟩, ⟨h9, k9⟩, ⟨h8, k8⟩, ⟨h7, k7⟩, ⟨h6, k6⟩, _⟩ := hs
    obtain ⟨a0, a1, a2, a3, a4, a5, a6, _⟩ := ha
    refine dec_one (p := val [ρ 0, ρ 1, ρ 2, ρ 3, ρ 4, ρ 5] < q) (z := 1) ?_
    simp only [val, q, List.cons.injEq, and_true]
    omega
  · simp only [satTr_cons, satTr_nil, sv_lss, sv_leq, sv_gtr, sv_geq, sv_eql, sv_neq, sv_not, sv_beq, sv_pick, sv_add, sv_sub, sv_fn, sv_eqs, E.den, List.map, K.holds] at hs
    simp only [asrOK_cons, asrOK_nil, if_true, if_false, Bool.false_eq_true, E.den] at ha
    obtain ⟨⟨h14, k14⟩, ⟨h13, k13⟩, ⟨h12, k12⟩, ⟨h11, k11⟩, ⟨h10, k10⟩, ⟨h9, k9⟩, ⟨h8, k8⟩, ⟨h7, k7⟩, ⟨h6, k6⟩, _⟩ := hs
    obtain ⟨a0, a1, a2, a3, a4, a5, a6, a7, a8, _⟩ := ha
    refine dec_one (p := val [ρ 0, ρ 1, ρ 2, ρ 3, ρ 4, ρ 5] < q) (z := 1) ?_
    simp only [val, q, List.cons.injEq, and_true]
    omega
  · simp only [satTr_cons, satTr_nil, sv_lss, sv_leq, sv_gtr, sv_geq, sv_eql, sv_neq, sv_not, sv_beq, sv_pick, sv_add, sv_sub, sv_fn, sv_eqs, E.den, List.map, K.holds] at hs
    simp only [asrOK_cons, asrOK_nil, if_true, if_false, Bool.false_eq_true, E.den] at ha
    obtain ⟨⟨h16, k16⟩, ⟨h15, k15⟩, ⟨h14, k14⟩, ⟨h13, k13⟩, ⟨h12, k12⟩, ⟨h11, k11⟩, ⟨h10, k10⟩, ⟨h9, k9⟩, ⟨h8, k8⟩, ⟨h7, k7⟩, ⟨h6, k6⟩, _⟩ := hs
    obtain ⟨a0, a1, a2, a3, a4, a5, a6, a7, a8, a9, _⟩ := ha
    refine dec_one (p := val [ρ 0, ρ 1, ρ 2, ρ 3, ρ 4, ρ 5] < q) (z := ρ 16) ?_
    simp only [val, q, List.cons.injEq, and_true]
    omega
  · simp only [satTr_cons, satTr_nil, sv_lss, sv_leq, sv_gtr, sv_geq, sv_eql, sv_neq, sv_not, sv_beq, sv_pick, sv_add, sv_sub, sv_fn, sv_eqs, E.den, List.map, K.holds] at hs
    simp only [asrOK_cons, asrOK_nil, if_true, if_false, Bool.false_eq_true, E.den] at ha
    obtain ⟨⟨h15, k15⟩, ⟨h14, k14⟩, ⟨h13, k13⟩, ⟨h12, k12⟩, ⟨h11, k11⟩, ⟨h10, k10⟩, ⟨h9, k9⟩, ⟨h8, k8⟩, ⟨h7, k7⟩, ⟨h6, k6⟩, _⟩ := hs
    obtain ⟨a0, a1, a2, a3, a4, a5, a6, a7, a8, a9, _⟩ := ha
    refine dec_one (p := val [ρ 0, ρ 1, ρ 2, ρ 3, ρ 4, ρ 5] < q) (z := 0) ?_
    simp only [val, q, List.cons.injEq, and_true]
    omega
  · simp only [satTr_cons, satTr_nil, sv_lss, sv_leq, sv_gtr, sv_geq, sv_eql, sv_neq, sv_not, sv_beq, sv_pick, sv_add, sv_sub, sv_fn, sv_eqs, E.den, List.map, K.holds] at hs
    simp only [asrOK_cons, asrOK_nil, if_true, if_false, Bool.false_eq_true, E.den] at ha
    obtain ⟨⟨h13, k13⟩, ⟨h12, k12⟩, ⟨h11, k11⟩, ⟨h10, k10⟩, ⟨h9, k9⟩, ⟨h8, k8⟩, ⟨h7, k7⟩, ⟨h6, k6⟩, _⟩ := hs
    obtain ⟨a0, a1, a2, a3, a4, a5, a6, a7, _⟩ := ha
    refine dec_one (p := val [ρ 0, ρ 1, ρ 2, ρ 3, ρ 4, ρ 5] < q) (z := 0) ?_
    simp only [val, q, List.cons.injEq, and_true]
    omega
  · simp only [satTr_cons, satTr_nil, sv_lss, sv_leq, sv_gtr, sv_geq, sv_eql, sv_neq, sv_not, sv_beq, sv_pick, sv_add, sv_sub, sv_fn, sv_eqs, E.den, List.map, K.holds] at hs
    simp only [asrOK_cons, asrOK_nil, if_true, if_false, Bool.false_eq_true, E.den] at ha
    obtain ⟨⟨h11, k11⟩, ⟨h10, k10⟩, ⟨h9, k9⟩, ⟨h8, k8⟩, ⟨h7, k7⟩, ⟨h6, k6⟩, _⟩ := hs
    obtain ⟨a0, a1, a2, a3, a4, a5, _⟩ := ha
    refine dec_one (p := val [ρ 0, ρ 1, ρ 2, ρ 3, ρ 4, ρ 5] < q) (z := 0) ?_
    simp only [val, q, List.cons.injEq, and_true]
    omega
  · simp only [satTr_cons, satTr_nil, sv_lss, sv_leq, sv_gtr, sv_geq, sv_eql, sv_neq, sv_not, sv_beq, sv_pick, sv_add, sv_sub, sv_fn, sv_eqs, E.den, List.map, K.holds] at hs
    simp only [asrOK_cons, asrOK_nil, if_true, if_false, Bool.false_eq_true, E.den] at ha
    obtain ⟨⟨h9, k9⟩, ⟨h8, k8⟩, ⟨h7, k7⟩, ⟨h6, k6⟩, _⟩ := hs
    obtain ⟨a0, a1, a2, a3, _⟩ := ha
    refine dec_one (p := val [ρ 0, ρ 1, ρ 2, ρ 3, ρ 4, ρ 5] < q) (z := 0) ?_
    simp only [val, q, List.cons.injEq, and_true]
    omega
  · simp only [satTr_cons, satTr_nil, sv_lss, sv_leq, sv_gtr, sv_geq, sv_eql, sv_neq, sv_not, sv_beq, sv_pick, sv_add, sv_sub, sv_fn, sv_eqs, E.den, List.map, K.holds] at hs
    simp only [asrOK_cons, asrOK_nil, if_true, if_false, Bool.false_eq_true, E.den] at ha
    obtain ⟨⟨h7, k7⟩, ⟨h6, k6⟩, _⟩ := hs
    obtain ⟨a0, a1, _⟩ := ha
    refine dec_one (p := val [ρ 0, ρ 1, ρ 2, ρ 3, ρ 4, ρ 5] < q) (z := 0) ?_
    simp only [val, q, List.cons.injEq, and_true]
    omega

/-! ### add -/
def su_add : Summ := ⟨[.ptr 6, .ptr 6, .ptr 6], (some 0), [.arg 0]⟩
def t_add0 : CT := .leaf ⟨[(49, .i .u64, .pick (.v 31) (.v 42) (.v 28)),
    (48, .i .u64, .pick (.v 31) (.v 40) (.v 26)),
    (47, .i .u64, .pick (.v 31) (.v 38) (.v 24)),
    (46, .i .u64, .pick (.v 31) (.v 36) (.v 22)),
    (45, .i .u64, .pick (.v 31) (.v 34) (.v 20)),
    (44, .i .u64, .pick (.v 31) (.v 32) (.v 18)),
    (43, .bit, .fn 39 [.v 28, .c 1873798617647539866, .v 41] 1),
    (42, .i .u64, .fn 39 [.v 28, .c 1873798617647539866, .v 41] 0),
    (41, .bit, .fn 39 [.v 26, .c 5412103778470702295, .v 39] 1),
    (40, .i .u64, .fn 39 [.v 26, .c 5412103778470702295, .v 39] 0),
    (39, .bit, .fn 39 [.v 24, .c 7239337960414712511, .v 37] 1),
    (38, .i .u64, .fn 39 [.v 24, .c 7239337960414712511, .v 37] 0),
    (37, .bit, .fn 39 [.v 22, .c 7435674573564081700, .v 35] 1),
    (36, .i .u64, .fn 39 [.v 22, .c 7435674573564081700, .v 35] 0),
    (35, .bit, .fn 39 [.v 20, .c 2210141511517208575, .v 33] 1),
    (34, .i .u64, .fn 39 [.v 20, .c 2210141511517208575, .v 33] 0),
    (33, .bit, .fn 39 [.v 18, .c 13402431016077863595, .c 0] 1),
    (32, .i .u64, .fn 39 [.v 18, .c 13402431016077863595, .c 0] 0),
    (31, .bool, .not (.v 30)),
    (30, .bool, .fn 41 [.v 18, .v 20, .v 22, .v 24, .v 26, .v 28] 0),
    (29, .bit, .fn 40 [.v 11, .v 17, .v 27] 1),
    (28, .i .u64, .fn 40 [.v 11, .v 17, .v 27] 0),
    (27, .bit, .fn 40 [.v 10, .v 16, .v 25] 1),
    (26, .i .u64, .fn 40 [.v 10, .v 16, .v 25] 0),
    (25, .bit, .fn 40 [.v 9, .v 15, .v 23] 1),
    (24, .i .u64, .fn 40 [.v 9, .v 15, .v 23] 0),
    (23, .bit, .fn 40 [.v 8, .v 14, .v 21] 1),
    (22, .i .u64, .fn 40 [.v 8, .v 14, .v 21] 0),
    (21, .bit, .fn 40 [.v 7, .v 13, .v 19] 1),
    (20, .i .u64, .fn 40 [.v 7, .v 13, .v 19] 0),
    (19, .bit, .fn 40 [.v 6, .v 12, .c 0] 1),
    (18, .i .u64, .fn 40 [.v 6, .v 12, .c 0] 0)],
    [], [.v 44, .v 45, .v 46, .v 47, .v 48, .v 49]⟩
theorem chk_add : checkFn Try.prog [(40, addSub), (39, addSub), (41, su_small)] su_add 400 Try.f31 (fun _ => t_add0) = true := by kernel_rfl
theorem ok_add : SummOK Try.prog 31 su_add (Phi 31) := by
  refine summ_fn (Φ := Phi) 400 (fun _ => t_add0) Try.func31 (tbl_cons ok_add64 (tbl_cons ok_sub64 (tbl_cons ok_small tbl_nil))) chk_add ?_
  intro al hal l hl ρ hk hs ha
  have hn : su_add.inKinds.length = 18 := rfl
  have hr : row ρ 18 = [ρ 0, ρ 1, ρ 2, ρ 3, ρ 4, ρ 5, ρ 6, ρ 7, ρ 8, ρ 9, ρ 10, ρ 11, ρ 12, ρ 13, ρ 14, ρ 15, ρ 16, ρ 17] := rfl
  rw [hn, hr] at hk ⊢
  simp only [su_add, Summ.inKinds, List.flatMap_cons, List.flatMap_nil, List.replicate, List.cons_append, List.nil_append, List.append_nil, holdsAll, K.holds] at hk
  obtain ⟨b0, b1, b2, b3, b4, b5, b6, b7, b8, b9, b10, b11, b12, b13, b14, b15, b16, b17, _⟩ := hk
  simp only [t_add0, CT.leaves, List.cons_append, List.nil_append, List.mem_cons, List.not_mem_nil, or_false] at hl
  subst hl
  simp only [satTr_cons, satTr_nil, sv_lss, sv_leq, sv_gtr, sv_geq, sv_eql, sv_neq, sv_not, sv_beq, sv_pick, sv_add, sv_sub, sv_fn, sv_eqs, E.den, List.map, K.holds] at hs
  simp only [asrOK_cons, asrOK_nil, if_true, if_false, Bool.false_eq_true, E.den] at ha
  obtain ⟨⟨h49, k49⟩, ⟨h48, k48⟩, ⟨h47, k47⟩, ⟨h46, k46⟩, ⟨h45, k45⟩, ⟨h44, k44⟩, ⟨h43, k43⟩, ⟨h42, k42⟩, ⟨h41, k41⟩, ⟨h40, k40⟩, ⟨h39, k39⟩, ⟨h38, k38⟩, ⟨h37, k37⟩, ⟨h36, k36⟩, ⟨h35, k35⟩, ⟨h34, k34⟩, ⟨h33, k33⟩, ⟨h32, k32⟩, ⟨h31, k31⟩, ⟨h30, k30⟩, ⟨h29, k29⟩, ⟨h28, k28⟩, ⟨h27, k27⟩, ⟨h26, k26⟩, ⟨h25, k25⟩, ⟨h24, k24⟩, ⟨h23, k23⟩, ⟨h22, k22⟩, ⟨h21, k21⟩, ⟨h20, k20⟩, ⟨h19, k19⟩, ⟨h18, k18⟩, _⟩ := hs
  clear ha
  have r18 : ρ 18 + 18446744073709551616 * ρ 19 = ρ 6 + ρ 12 + 0 := adc h18 h19
  have r20 : ρ 20 + 18446744073709551616 * ρ 21 = ρ 7 + ρ 13 + ρ 19 := adc h20 h21
  have r22 : ρ 22 + 18446744073709551616 * ρ 23 = ρ 8 + ρ 14 + ρ 21 := adc h22 h23
  have r24 : ρ 24 + 18446744073709551616 * ρ 25 = ρ 9 + ρ 15 + ρ 23 := adc h24 h25
  have r26 : ρ 26 + 18446744073709551616 * ρ 27 = ρ 10 + ρ 16 + ρ 25 := adc h26 h27
  have r28 : ρ 28 + 18446744073709551616 * ρ 29 = ρ 11 + ρ 17 + ρ 27 := adc h28 h29
  have e30 : ρ 30 = b2i (decide (val [ρ 18, ρ 20, ρ 22, ρ 24, ρ 26, ρ 28] < q)) := h30
  rw [st_dec] at e30
  have r32 : ρ 32 - 18446744073709551616 * ρ 33 = ρ 18 - 13402431016077863595 - 0 := sbb k18 (by decide) (by decide) h32 h33
  have r34 : ρ 34 - 18446744073709551616 * ρ 35 = ρ 20 - 2210141511517208575 - ρ 33 := sbb k20 (by decide) k33 h34 h35
  have r36 : ρ 36 - 18446744073709551616 * ρ 37 = ρ 22 - 7435674573564081700 - ρ 35 := sbb k22 (by decide) k35 h36 h37
  have r38 : ρ 38 - 18446744073709551616 * ρ 39 = ρ 24 - 7239337960414712511 - ρ 37 := sbb k24 (by decide) k37 h38 h39
  have r40 : ρ 40 - 18446744073709551616 * ρ 41 = ρ 26 - 5412103778470702295 - ρ 39 := sbb k26 (by decide) k39 h40 h41
  have r42 : ρ 42 - 18446744073709551616 * ρ 43 = ρ 28 - 1873798617647539866 - ρ 41 := sbb k28 (by decide) k41 h42 h43
  change wds 6 (eAdd 6 q (val [ρ 6, ρ 7, ρ 8, ρ 9, ρ 10, ρ 11]) (val [ρ 12, ρ 13, ρ 14, ρ 15, ρ 16, ρ 17])) = [ρ 44, ρ 45, ρ 46, ρ 47, ρ 48, ρ 49]
  refine add_done (S := [ρ 18, ρ 20, ρ 22, ρ 24, ρ 26, ρ 28]) (D := [ρ 32, ρ 34, ρ 36, ρ 38, ρ 40, ρ 42]) (c := ρ 29) (d := ρ 43) (u64s_cons k18 (u64s_cons k20 (u64s_cons k22 (u64s_cons k24 (u64s_cons k26 (u64s_cons k28 u64s_nil)))))) rfl (u64s_cons k32 (u64s_cons k34 (u64s_cons k36 (u64s_cons k38 (u64s_cons k40 (u64s_cons k42 u64s_nil)))))) rfl ?_ h30 h31 ?_ ?_
  · simp only [val, big]; clear e30; omega
  · simp only [val, big, q]; clear e30; omega
  · by_cases hz : ρ 31 = 0
    · left; refine ⟨hz, ?_⟩; simp only [hz, true_and, ne_eq, not_true_eq_false, false_and, or_false] at h44 h45 h46 h47 h48 h49; rw [h44, h45, h46, h47, h48, h49]
    · right; refine ⟨hz, ?_⟩; simp only [hz, false_and, ne_eq, not_false_eq_true, true_and, false_or] at h44 h45 h46 h47 h48 h49; rw [h44, h45, h46, h47, h48, h49]

/-! ### sub -/
def su_sub : Summ := ⟨[.ptr 6, .ptr 6, .ptr 6], (some 0), [.arg 0]⟩
def t_sub0 : CT := .leaf ⟨[(48, .i .u64, .pick (.v 30) (.v 41) (.v 28)),
    (47, .i .u64, .pick (.v 30) (.v 39) (.v 26)),
    (46, .i .u64, .pick (.v 30) (.v 37) (.v 24)),
    (45, .i .u64, .pick (.v 30) (.v 35) (.v 22)),
    (44, .i .u64, .pick (.v 30) (.v 33) (.v 20)),
    (43, .i .u64, .pick (.v 30) (.v 31) (.v 18)),
    (42, .bit, .fn 40 [.v 28, .c 1873798617647539866, .v 40] 1),
    (41, .i .u64, .fn 40 [.v 28, .c 1873798617647539866, .v 40] 0),
    (40, .bit, .fn 40 [.v 26, .c 5412103778470702295, .v 38] 1),
    (39, .i .u64, .fn 40 [.v 26, .c 5412103778470702295, .v 38] 0),
    (38, .bit, .fn 40 [.v 24, .c 7239337960414712511, .v 36] 1),
    (37, .i .u64, .fn 40 [.v 24, .c 7239337960414712511, .v 36] 0),
    (36, .bit, .fn 40 [.v 22, .c 7435674573564081700, .v 34] 1),
    (35, .i .u64, .fn 40 [.v 22, .c 7435674573564081700, .v 34] 0),
    (34, .bit, .fn 40 [.v 20, .c 2210141511517208575, .v 32] 1),
    (33, .i .u64, .fn 40 [.v 20, .c 2210141511517208575, .v 32] 0),
    (32, .bit, .fn 40 [.v 18, .c 13402431016077863595, .c 0] 1),
    (31, .i .u64, .fn 40 [.v 18, .c 13402431016077863595, .c 0] 0),
    (30, .bool, .cmp .neq (.v 29) (.c 0)),
    (29, .bit, .fn 39 [.v 11, .v 17, .v 27] 1),
    (28, .i .u64, .fn 39 [.v 11, .v 17, .v 27] 0),
    (27, .bit, .fn 39 [.v 10, .v 16, .v 25] 1),
    (26, .i .u64, .fn 39 [.v 10, .v 16, .v 25] 0),
    (25, .bit, .fn 39 [.v 9, .v 15, .v 23] 1),
    (24, .i .u64, .fn 39 [.v 9, .v 15, .v 23] 0),
    (23, .bit, .fn 39 [.v 8, .v 14, .v 21] 1),
    (22, .i .u64, .fn 39 [.v 8, .v 14, .v 21] 0),
    (21, .bit, .fn 39 [.v 7, .v 13, .v 19] 1),
    (20, .i .u64, .fn 39 [.v 7, .v 13, .v 19] 0),
    (19, .bit, .fn 39 [.v 6, .v 12, .c 0] 1),
    (18, .i .u64, .fn 39 [.v 6, .v 12, .c 0] 0)],
    [], [.v 43, .v 44, .v 45, .v 46, .v 47, .v 48]⟩
theorem chk_sub : checkFn Try.prog [(40, addSub), (39, addSub)] su_sub 400 Try.f32 (fun _ => t_sub0) = true := by kernel_rfl
theorem ok_sub : SummOK Try.prog 32 su_sub (Phi 32) := by
  refine summ_fn (Φ := Phi) 400 (fun _ => t_sub0) Try.func32 (tbl_cons ok_add64 (tbl_cons ok_sub64 tbl_nil)) chk_sub ?_
  intro al hal l hl ρ hk hs ha
  have hn : su_sub.inKinds.length = 18 := rfl
  have hr : row ρ 18 = [ρ 0, ρ 1, ρ 2, ρ 3, ρ 4, ρ 5, ρ 6, ρ 7, ρ 8, ρ 9, ρ 10, ρ 11, ρ 12, ρ 13, ρ 14, ρ 15, ρ 16, ρ 17] := rfl
  rw [hn, hr] at hk ⊢
  simp only [su_sub, Summ.inKinds, List.flatMap_cons, List.flatMap_nil, List.replicate, List.cons_append, List.nil_append, List.append_nil, holdsAll, K.holds] at hk
  obtain ⟨b0, b1, b2, b3, b4, b5, b6, b7, b8, b9, b10, b11, b12, b13, b14, b15, b16, b17, _⟩ := hk
  simp only [t_sub0, CT.leaves, List.cons_append, List.nil_append, List.mem_cons, List.not_mem_nil, or_false] at hl
  subst hl
  simp only [satTr_cons, satTr_nil, sv_lss, sv_leq, sv_gtr, sv_geq, sv_eql, sv_neq, sv_not, sv_beq, sv_pick, sv_add, sv_sub, sv_fn, sv_eqs, E.den, List.map, K.holds] at hs
  simp only [asrOK_cons, asrOK_nil, if_true, if_false, Bool.false_eq_true, E.den] at ha
  obtain ⟨⟨h48, k48⟩, ⟨h47, k47⟩, ⟨h46, k46⟩, ⟨h45, k45⟩, ⟨h44, k44⟩, ⟨h43, k43⟩, ⟨h42, k42⟩, ⟨h41, k41⟩, ⟨h40, k40⟩, ⟨h39, k39⟩, ⟨h38, k38⟩, ⟨h37, k37⟩, ⟨h36, k36⟩, ⟨h35, k35⟩, ⟨h34, k34⟩, ⟨h33, k33⟩, ⟨h32, k32⟩, ⟨h31, k31⟩, ⟨h30, k30⟩, ⟨h29, k29⟩, ⟨h28, k28⟩, ⟨h27, k27⟩, ⟨h26, k26⟩, ⟨h25, k25⟩, ⟨h24, k24⟩, ⟨h23, k23⟩, ⟨h22, k22⟩, ⟨h21, k21⟩, ⟨h20, k20⟩, ⟨h19, k19⟩, ⟨h18, k18⟩, _⟩ := hs
  clear ha
  have r18 : ρ 18 - 18446744073709551616 * ρ 19 = ρ 6 - ρ 12 - 0 := sbb b6 b12 (by decide) h18 h19
  have r20 : ρ 20 - 18446744073709551616 * ρ 21 = ρ 7 - ρ 13 - ρ 19 := sbb b7 b13 k19 h20 h21
  have r22 : ρ 22 - 18446744073709551616 * ρ 23 = ρ 8 - ρ 14 - ρ 21 := sbb b8 b14 k21 h22 h23
  have r24 : ρ 24 - 18446744073709551616 * ρ 25 = ρ 9 - ρ 15 - ρ 23 := sbb b9 b15 k23 h24 h25
  have r26 : ρ 26 - 18446744073709551616 * ρ 27 = ρ 10 - ρ 16 - ρ 25 := sbb b10 b16 k25 h26 h27
  have r28 : ρ 28 - 18446744073709551616 * ρ 29 = ρ 11 - ρ 17 - ρ 27 := sbb b11 b17 k27 h28 h29
  have r31 : ρ 31 + 18446744073709551616 * ρ 32 = ρ 18 + 13402431016077863595 + 0 := adc h31 h32
  have r33 : ρ 33 + 18446744073709551616 * ρ 34 = ρ 20 + 2210141511517208575 + ρ 32 := adc h33 h34
  have r35 : ρ 35 + 18446744073709551616 * ρ 36 = ρ 22 + 7435674573564081700 + ρ 34 := adc h35 h36
  have r37 : ρ 37 + 18446744073709551616 * ρ 38 = ρ 24 + 7239337960414712511 + ρ 36 := adc h37 h38
  have r39 : ρ 39 + 18446744073709551616 * ρ 40 = ρ 26 + 5412103778470702295 + ρ 38 := adc h39 h40
  have r41 : ρ 41 + 18446744073709551616 * ρ 42 = ρ 28 + 1873798617647539866 + ρ 40 := adc h41 h42
  change wds 6 (subM (val [ρ 6, ρ 7, ρ 8, ρ 9, ρ 10, ρ 11]) (val [ρ 12, ρ 13, ρ 14, ρ 15, ρ 16, ρ 17]) q) = [ρ 43, ρ 44, ρ 45, ρ 46, ρ 47, ρ 48]
  refine sub_done (S := [ρ 18, ρ 20, ρ 22, ρ 24, ρ 26, ρ 28]) (D := [ρ 31, ρ 33, ρ 35, ρ 37, ρ 39, ρ 41]) (c := ρ 29) (d := ρ 42) (val_lt (u64s_cons b6 (u64s_cons b7 (u64s_cons b8 (u64s_cons b9 (u64s_cons b10 (u64s_cons b11 u64s_nil)))))) rfl) (val_lt (u64s_cons b12 (u64s_cons b13 (u64s_cons b14 (u64s_cons b15 (u64s_cons b16 (u64s_cons b17 u64s_nil)))))) rfl) (u64s_cons k18 (u64s_cons k20 (u64s_cons k22 (u64s_cons k24 (u64s_cons k26 (u64s_cons k28 u64s_nil)))))) rfl (u64s_cons k31 (u64s_cons k33 (u64s_cons k35 (u64s_cons k37 (u64s_cons k39 (u64s_cons k41 u64s_nil)))))) rfl k29 ?_ h30 ?_ ?_
  · simp only [val, big]; omega
  · simp only [val, big, q]; omega
  · by_cases hz : ρ 30 = 0
    · left; refine ⟨hz, ?_⟩; simp only [hz, true_and, ne_eq, not_true_eq_false, false_and, or_false] at h43 h44 h45 h46 h47 h48; rw [h43, h44, h45, h46, h47, h48]
    · right; refine ⟨hz, ?_⟩; simp only [hz, false_and, ne_eq, not_false_eq_true, true_and, false_or] at h43 h44 h45 h46 h47 h48; rw [h43, h44, h45, h46, h47, h48]

/-! ### iNeg -/
def su_iNeg : Summ := ⟨[.agg 6], none, [.agg 6]⟩
def t_iNeg0 : CT := .leaf ⟨[(11, .i .u64, .fn 28 [.c 0, .c 0, .c 0, .c 0, .c 0, .c 0, .v 0, .v 1, .v 2, .v 3, .v 4, .v 5] 5),
    (10, .i .u64, .fn 28 [.c 0, .c 0, .c 0, .c 0, .c 0, .c 0, .v 0, .v 1, .v 2, .v 3, .v 4, .v 5] 4),
    (9, .i .u64, .fn 28 [.c 0, .c 0, .c 0, .c 0, .c 0, .c 0, .v 0, .v 1, .v 2, .v 3, .v 4, .v 5] 3),
    (8, .i .u64, .fn 28 [.c 0, .c 0, .c 0, .c 0, .c 0, .c 0, .v 0, .v 1, .v 2, .v 3, .v 4, .v 5] 2),
    (7, .i .u64, .fn 28 [.c 0, .c 0, .c 0, .c 0, .c 0, .c 0, .v 0, .v 1, .v 2, .v 3, .v 4, .v 5] 1),
    (6, .i .u64, .fn 28 [.c 0, .c 0, .c 0, .c 0, .c 0, .c 0, .v 0, .v 1, .v 2, .v 3, .v 4, .v 5] 0)],
    [], [.v 6, .v 7, .v 8, .v 9, .v 10, .v 11]⟩
theorem chk_iNeg : checkFn Try.prog [(28, su_neg)] su_iNeg 400 Try.f16 (fun _ => t_iNeg0) = true := by kernel_rfl
theorem ok_iNeg : SummOK Try.prog 16 su_iNeg (Phi 16) := by
  refine summ_fn (Φ := Phi) 400 (fun _ => t_iNeg0) Try.func16 (tbl_cons ok_neg tbl_nil) chk_iNeg ?_
  intro al hal l hl ρ hk hs ha
  have hn : su_iNeg.inKinds.length = 6 := rfl
  have hr : row ρ 6 = [ρ 0, ρ 1, ρ 2, ρ 3, ρ 4, ρ 5] := rfl
  rw [hn, hr] at hk ⊢
  simp only [su_iNeg, Summ.inKinds, List.flatMap_cons, List.flatMap_nil, List.replicate, List.cons_append, List.nil_append, List.append_nil, holdsAll, K.holds] at hk
  obtain ⟨b0, b1, b2, b3, b4, b5, _⟩ := hk
  simp only [t_iNeg0, CT.leaves, List.cons_append, List.nil_append, List.mem_cons, List.not_mem_nil, or_false] at hl
  subst hl
  simp only [satTr_cons, satTr_nil, sv_lss, sv_leq, sv_gtr, sv_geq, sv_eql, sv_neq, sv_not, sv_beq, sv_pick, sv_add, sv_sub, sv_fn, sv_eqs, E.den, List.map, K.holds] at hs
  simp only [asrOK_cons, asrOK_nil, if_true, if_false, Bool.false_eq_true, E.den] at ha
  obtain ⟨⟨h11, k11⟩, ⟨h10, k10⟩, ⟨h9, k9⟩, ⟨h8, k8⟩, ⟨h7, k7⟩, ⟨h6, k6⟩, _⟩ := hs
  clear ha
  have g6 : [ρ 6, ρ 7, ρ 8, ρ 9, ρ 10, ρ 11] = wds 6 (eNeg q (val [ρ 0, ρ 1, ρ 2, ρ 3, ρ 4, ρ 5])) := get6 rfl h6 h7 h8 h9 h10 h11
  exact g6.symm

/-! ### iAdd -/
def su_iAdd : Summ := ⟨[.agg 6, .agg 6], none, [.agg 6]⟩
def t_iAdd0 : CT := .leaf ⟨[(17, .i .u64, .fn 31 [.c 0, .c 0, .c 0, .c 0, .c 0, .c 0, .v 0, .v 1, .v 2, .v 3, .v 4, .v 5, .v 6, .v 7, .v 8, .v 9, .v 10, .v 11] 5),
    (16, .i .u64, .fn 31 [.c 0, .c 0, .c 0, .c 0, .c 0, .c 0, .v 0, .v 1, .v 2, .v 3, .v 4, .v 5, .v 6, .v 7, .v 8, .v 9, .v 10, .v 11] 4),
    (15, .i .u64, .fn 31 [.c 0, .c 0, .c 0, .c 0, .c 0, .c 0, .v 0, .v 1, .v 2, .v 3, .v 4, .v 5, .v 6, .v 7, .v 8, .v 9, .v 10, .v 11] 3),
    (14, .i .u64, .fn 31 [.c 0, .c 0, .c 0, .c 0, .c 0, .c 0, .v 0, .v 1, .v 2, .v 3, .v 4, .v 5, .v 6, .v 7, .v 8, .v 9, .v 10, .v 11] 2),
    (13, .i .u64, .fn 31 [.c 0, .c 0, .c 0, .c 0, .c 0, .c 0, .v 0, .v 1, .v 2, .v 3, .v 4, .v 5, .v 6, .v 7, .v 8, .v 9, .v 10, .v 11] 1),
    (12, .i .u64, .fn 31 [.c 0, .c 0, .c 0, .c 0, .c 0, .c 0, .v 0, .v 1, .v 2, .v 3, .v 4, .v 5, .v 6, .v 7, .v 8, .v 9, .v 10, .v 11] 0)],
    [], [.v 12, .v 13, .v 14, .v 15, .v 16, .v 17]⟩
theorem chk_iAdd : checkFn Try.prog [(31, su_add)] su_iAdd 400 Try.f18 (fun _ => t_iAdd0) = true := by kernel_rfl
theorem ok_iAdd : SummOK Try.prog 18 su_iAdd (Phi 18) := by
  refine summ_fn (Φ := Phi) 400 (fun _ => t_iAdd0) Try.func18 (tbl_cons ok_add tbl_nil) chk_iAdd ?_
  intro al hal l hl ρ hk hs ha
  have hn : su_iAdd.inKinds.length = 12 := rfl
  have hr : row ρ 12 = [ρ 0, ρ 1, ρ 2, ρ 3, ρ 4, ρ 5, ρ 6, ρ 7, ρ 8, ρ 9, ρ 10, ρ 11] := rfl
  rw [hn, hr] at hk ⊢
  simp only [su_iAdd, Summ.inKinds, List.flatMap_cons, List.flatMap_nil, List.replicate, List.cons_append, List.nil_append, List.append_nil, holdsAll, K.holds] at hk
  obtain ⟨b0, b1, b2, b3, b4, b5, b6, b7, b8, b9, b10, b11, _⟩ := hk
  simp only [t_iAdd0, CT.leaves, List.cons_append, List.nil_append, List.mem_cons, List.not_mem_nil, or_false] at hl
  subst hl
  simp only [satTr_cons, satTr_nil, sv_lss, sv_leq, sv_gtr, sv_geq, sv_eql, sv_neq, sv_not, sv_beq, sv_pick, sv_add, sv_sub, sv_fn, sv_eqs, E.den, List.map, K.holds] at hs
  simp only [asrOK_cons, asrOK_nil, if_true, if_false, Bool.false_eq_true, E.den] at ha
  obtain ⟨⟨h17, k17⟩, ⟨h16, k16⟩, ⟨h15, k15⟩, ⟨h14, k14⟩, ⟨h13, k13⟩, ⟨h12, k12⟩, _⟩ := hs
  clear ha
  have g12 : [ρ 12, ρ 13, ρ 14, ρ 15, ρ 16, ρ 17] = wds 6 (eAdd 6 q (val [ρ 0, ρ 1, ρ 2, ρ 3, ρ 4, ρ 5]) (val [ρ 6, ρ 7, ρ 8, ρ 9, ρ 10, ρ 11])) := get6 rfl h12 h13 h14 h15 h16 h17
  exact g12.symm

/-! ### iSub -/
def su_iSub : Summ := ⟨[.agg 6, .agg 6], none, [.agg 6]⟩
def t_iSub0 : CT := .leaf ⟨[(17, .i .u64, .fn 32 [.c 0, .c 0, .c 0, .c 0, .c 0, .c 0, .v 0, .v 1, .v 2, .v 3, .v 4, .v 5, .v 6, .v 7, .v 8, .v 9, .v 10, .v 11] 5),
    (16, .i .u64, .fn 32 [.c 0, .c 0, .c 0, .c 0, .c 0, .c 0, .v 0, .v 1, .v 2, .v 3, .v 4, .v 5, .v 6, .v 7, .v 8, .v 9, .v 10, .v 11] 4),
    (15, .i .u64, .fn 32 [.c 0, .c 0, .c 0, .c 0, .c 0, .c 0, .v 0, .v 1, .v 2, .v 3, .v 4, .v 5, .v 6, .v 7, .v 8, .v 9, .v 10, .v 11] 3),
    (14, .i .u64, .fn 32 [.c 0, .c 0, .c 0, .c 0, .c 0, .c 0, .v 0, .v 1, .v 2, .v 3, .v 4, .v 5, .v 6, .v 7, .v 8, .v 9, .v 10, .v 11] 2),
    (13, .i .u64, .fn 32 [.c 0, .c 0, .c 0, .c 0, .c 0, .c 0, .v 0, .v 1, .v 2, .v 3, .v 4, .v 5, .v 6, .v 7, .v 8, .v 9, .v 10, .v 11] 1),
    (12, .i .u64, .fn 32 [.c 0, .c 0, .c 0, .c 0, .c 0, .c 0, .v 0, .v 1, .v 2, .v 3, .v 4, .v 5, .v 6, .v 7, .v 8, .v 9, .v 10, .v 11] 0)],
    [], [.v 12, .v 13, .v 14, .v 15, .v 16, .v 17]⟩
theorem chk_iSub : checkFn Try.prog [(32, su_sub)] su_iSub 400 Try.f19 (fun _ => t_iSub0) = true := by kernel_rfl
theorem ok_iSub : SummOK Try.prog 19 su_iSub (Phi 19) := by
  refine summ_fn (Φ := Phi) 400 (fun _ => t_iSub0) Try.func19 (tbl_cons ok_sub tbl_nil) chk_iSub ?_
  intro al hal l hl ρ hk hs ha
  have hn : su_iSub.inKinds.length = 12 := rfl
  have hr : row ρ 12 = [ρ 0, ρ 1, ρ 2, ρ 3, ρ 4, ρ 5, ρ 6, ρ 7, ρ 8, ρ 9, ρ 10, ρ 11] := rfl
  rw [hn, hr] at hk ⊢
  simp only [su_iSub, Summ.inKinds, List.flatMap_cons, List.flatMap_nil, List.replicate, List.cons_append, List.nil_append, List.append_nil, holdsAll, K.holds] at hk
  obtain ⟨b0, b1, b2, b3, b4, b5, b6, b7, b8, b9, b10, b11, _⟩ := hk
  simp only [t_iSub0, CT.leaves, List.cons_append, List.nil_append, List.mem_cons, List.not_mem_nil, or_false] at hl
  subst hl
  simp only [satTr_cons, satTr_nil, sv_lss, sv_leq, sv_gtr, sv_geq, sv_eql, sv_neq, sv_not, sv_beq, sv_pick, sv_add, sv_sub, sv_fn, sv_eqs, E.den, List.map, K.holds] at hs
  simp only [asrOK_cons, asrOK_nil, if_true, if_false, Bool.false_eq_true, E.den] at ha
  obtain ⟨⟨h17, k17⟩, ⟨h16, k16⟩, ⟨h15, k15⟩, ⟨h14, k14⟩, ⟨h13, k13⟩, ⟨h12, k12⟩, _⟩ := hs
  clear ha
  have g12 : [ρ 12, ρ 13, ρ 14, ρ 15, ρ 16, ρ 17] = wds 6 (subM (val [ρ 0, ρ 1, ρ 2, ρ 3, ρ 4, ρ 5]) (val [ρ 6, ρ 7, ρ 8, ρ 9, ρ 10, ρ 11]) q) := get6 rfl h12 h13 h14 h15 h16 h17
  exact g12.symm

/-! ### lNegAdd -/
def su_lNegAdd : Summ := ⟨[.agg 6], none, [.sc .bool]⟩
def t_lNegAdd0 : CT := .node (.v 13)
  (.leaf ⟨[(13, .bool, .not (.v 12)),
    (12, .bool, .fn 9 [.v 0, .v 1, .v 2, .v 3, .v 4, .v 5, .v 6, .v 7, .v 8, .v 9, .v 10, .v 11] 0),
    (11, .i .u64, .fn 10 [] 5),
    (10, .i .u64, .fn 10 [] 4),
    (9, .i .u64, .fn 10 [] 3),
    (8, .i .u64, .fn 10 [] 2),
    (7, .i .u64, .fn 10 [] 1),
    (6, .i .u64, .fn 10 [] 0)],
    [(.v 13, true)], [.c 1]⟩)
  (.node (.v 26)
  (.node (.v 33)
  (.leaf ⟨[(40, .bool, .eqs [.v 34, .v 35, .v 36, .v 37, .v 38, .v 39] [.v 14, .v 15, .v 16, .v 17, .v 18, .v 19]),
    (39, .i .u64, .fn 19 [.c 0, .c 0, .c 0, .c 0, .c 0, .c 0, .v 0, .v 1, .v 2, .v 3, .v 4, .v 5] 5),
    (38, .i .u64, .fn 19 [.c 0, .c 0, .c 0, .c 0, .c 0, .c 0, .v 0, .v 1, .v 2, .v 3, .v 4, .v 5] 4),
    (37, .i .u64, .fn 19 [.c 0, .c 0, .c 0, .c 0, .c 0, .c 0, .v 0, .v 1, .v 2, .v 3, .v 4, .v 5] 3),
    (36, .i .u64, .fn 19 [.c 0, .c 0, .c 0, .c 0, .c 0, .c 0, .v 0, .v 1, .v 2, .v 3, .v 4, .v 5] 2),
    (35, .i .u64, .fn 19 [.c 0, .c 0, .c 0, .c 0, .c 0, .c 0, .v 0, .v 1, .v 2, .v 3, .v 4, .v 5] 1),
    (34, .i .u64, .fn 19 [.c 0, .c 0, .c 0, .c 0, .c 0, .c 0, .v 0, .v 1, .v 2, .v 3, .v 4, .v 5] 0),
    (33, .bool, .eqs [.v 27, .v 28, .v 29, .v 30, .v 31, .v 32] [.v 0, .v 1, .v 2, .v 3, .v 4, .v 5]),
    (32, .i .u64, .fn 16 [.v 14, .v 15, .v 16, .v 17, .v 18, .v 19] 5),
    (31, .i .u64, .fn 16 [.v 14, .v 15, .v 16, .v 17, .v 18, .v 19] 4),
    (30, .i .u64, .fn 16 [.v 14, .v 15, .v 16, .v 17, .v 18, .v 19] 3),
    (29, .i .u64, .fn 16 [.v 14, .v 15, .v 16, .v 17, .v 18, .v 19] 2),
    (28, .i .u64, .fn 16 [.v 14, .v 15, .v 16, .v 17, .v 18, .v 19] 1),
    (27, .i .u64, .fn 16 [.v 14, .v 15, .v 16, .v 17, .v 18, .v 19] 0),
    (26, .bool, .eqs [.v 20, .v 21, .v 22, .v 23, .v 24, .v 25] [.c 0, .c 0, .c 0, .c 0, .c 0, .c 0]),
    (25, .i .u64, .fn 18 [.v 0, .v 1, .v 2, .v 3, .v 4, .v 5, .v 14, .v 15, .v 16, .v 17, .v 18, .v 19] 5),
    (24, .i .u64, .fn 18 [.v 0, .v 1, .v 2, .v 3, .v 4, .v 5, .v 14, .v 15, .v 16, .v 17, .v 18, .v 19] 4),
    (23, .i .u64, .fn 18 [.v 0, .v 1, .v 2, .v 3, .v 4, .v 5, .v 14, .v 15, .v 16, .v 17, .v 18, .v 19] 3),
    (22, .i .u64, .fn 18 [.v 0, .v 1, .v 2, .v 3, .v 4, .v 5, .v 14, .v 15, .v 16, .v 17, .v 18, .v 19] 2),
    (21, .i .u64, .fn 18 [.v 0, .v 1, .v 2, .v 3, .v 4, .v 5, .v 14, .v 15, .v 16, .v 17, .v 18, .v 19] 1),
    (20, .i .u64, .fn 18 [.v 0, .v 1, .v 2, .v 3, .v 4, .v 5, .v 14, .v 15, .v 16, .v 17, .v 18, .v 19] 0),
    (19, .i .u64, .fn 16 [.v 0, .v 1, .v 2, .v 3, .v 4, .v 5] 5),
    (18, .i .u64, .fn 16 [.v 0, .v 1, .v 2, .v 3, .v 4, .v 5] 4),
    (17, .i .u64, .fn 16 [.v 0, .v 1, .v 2, .v 3, .v 4, .v 5] 3),
    (16, .i .u64, .fn 16 [.v 0, .v 1, .v 2, .v 3, .v 4, .v 5] 2),
    (15, .i .u64, .fn 16 [.v 0, .v 1, .v 2, .v 3, .v 4, .v 5] 1),
    (14, .i .u64, .fn 16 [.v 0, .v 1, .v 2, .v 3, .v 4, .v 5] 0),
    (13, .bool, .not (.v 12)),
    (12, .bool, .fn 9 [.v 0, .v 1, .v 2, .v 3, .v 4, .v 5, .v 6, .v 7, .v 8, .v 9, .v 10, .v 11] 0),
    (11, .i .u64, .fn 10 [] 5),
    (10, .i .u64, .fn 10 [] 4),
    (9, .i .u64, .fn 10 [] 3),
    (8, .i .u64, .fn 10 [] 2),
    (7, .i .u64, .fn 10 [] 1),
    (6, .i .u64, .fn 10 [] 0)],
    [(.v 33, true), (.v 26, true), (.v 13, false)], [.v 40]⟩)
  (.leaf ⟨[(33, .bool, .eqs [.v 27, .v 28, .v 29, .v 30, .v 31, .v 32] [.v 0, .v 1, .v 2, .v 3, .v 4, .v 5]),
    (32, .i .u64, .fn 16 [.v 14, .v 15, .v 16, .v 17, .v 18, .v 19] 5),
    (31, .i .u64, .fn 16 [.v 14, .v 15, .v 16, .v 17, .v 18, .v 19] 4),
    (30, .i .u64, .fn 16 [.v 14, .v 15, .v 16, .v 17, .v 18, .v 19] 3),
    (29, .i .u64, .fn 16 [.v 14, .v 15, .v 16, .v 17, .v 18, .v 19] 2),
    (28, .i .u64, .fn 16 [.v 14, .v 15, .v 16, .v 17, .v 18, .v 19] 1),
    (27, .i .u64, .fn 16 [.v 14, .v 15, .v 16, .v 17, .v 18, .v 19] 0),
    (26, .bool, .eqs [.v 20, .v 21, .v 22, .v 23, .v 24, .v 25] [.c 0, .c 0, .c 0, .c 0, .c 0, .c 0]),
    (25, .i .u64, .fn 18 [.v 0, .v 1, .v 2, .v 3, .v 4, .v 5, .v 14, .v 15, .v 16, .v 17, .v 18, .v 19] 5),
    (24, .i .u64, .fn 18 [.v 0, .v 1, .v 2, .v 3, .v 4, .v 5, .v 14, .v 15, .v 16, .v 17, .v 18, .v 19] 4),
    (23, .i .u64, .fn 18 [.v 0, .v 1, .v 2, .v 3, .v 4, .v 5, .v 14, .v 15, .v 16, .v 17, .v 18, .v 19] 3),
    (22, .i .u64, .fn 18 [.v 0, .v 1, .v 2, .v 3, .v 4, .v 5, .v 14, .v 15, .v 16, .v 17, .v 18, .v 19] 2),
    (21, .i .u64, .fn 18 [.v 0, .v 1, .v 2, .v 3, .v 4, .v 5, .v 14, .v 15, .v 16, .v 17, .v 18, .v 19] 1),
    (20, .i .u64, .fn 18 [.v 0, .v 1, .v 2, .v 3, .v 4, .v 5, .v 14, .v 15, .v 16, .v 17, .v 18, .v 19] 0),
    (19, .i .u64, .fn 16 [.v 0, .v 1, .v 2, .v 3, .v 4, .v 5] 5),
    (18, .i .u64, .fn 16 [.v 0, .v 1, .v 2, .v 3, .v 4, .v 5] 4),
    (17, .i .u64, .fn 16 [.v 0, .v 1, .v 2, .v 3, .v 4, .v 5] 3),
    (16, .i .u64, .fn 16 [.v 0, .v 1, .v 2, .v 3, .v 4, .v 5] 2),
    (15, .i .u64, .fn 16 [.v 0, .v 1, .v 2, .v 3, .v 4, .v 5] 1),
    (14, .i .u64, .fn 16 [.v 0, .v 1, .v 2, .v 3, .v 4, .v 5] 0),
    (13, .bool, .not (.v 12)),
    (12, .bool, .fn 9 [.v 0, .v 1, .v 2, .v 3, .v 4, .v 5, .v 6, .v 7, .v 8, .v 9, .v 10, .v 11] 0),
    (11, .i .u64, .fn 10 [] 5),
    (10, .i .u64, .fn 10 [] 4),
    (9, .i .u64, .fn 10 [] 3),
    (8, .i .u64, .fn 10 [] 2),
    (7, .i .u64, .fn 10 [] 1),
    (6, .i .u64, .fn 10 [] 0)],
    [(.v 33, false), (.v 26, true), (.v 13, false)], [.c 0]⟩))
  (.leaf ⟨[(26, .bool, .eqs [.v 20, .v 21, .v 22, .v 23, .v 24, .v 25] [.c 0, .c 0, .c 0, .c 0, .c 0, .c 0]),
    (25, .i .u64, .fn 18 [.v 0, .v 1, .v 2, .v 3, .v 4, .v 5, .v 14, .v 15, .v 16, .v 17, .v 18, .v 19] 5),
    (24, .i .u64, .fn 18 [.v 0, .v 1, .v 2, .v 3, .v 4, .v 5, .v 14, .v 15, .v 16, .v 17, .v 18, .v 19] 4),
    (23, .i .u64, .fn 18 [.v 0, .v 1, .v 2, .v 3, .v 4, .v 5, .v 14, .v 15, .v 16, .v 17, .v 18, .v 19] 3),
    (22, .i .u64, .fn 18 [.v 0, .v 1, .v 2, .v 3, .v 4, .v 5, .v 14, .v 15, .v 16, .v 17, .v 18, .v 19] 2),
    (21, .i .u64, .fn 18 [.v 0, .v 1, .v 2, .v 3, .v 4, .v 5, .v 14, .v 15, .v 16, .v 17, .v 18, .v 19] 1),
    (20, .i .u64, .fn 18 [.v 0, .v 1, .v 2, .v 3, .v 4, .v 5, .v 14, .v 15, .v 16, .v 17, .v 18, .v 19] 0),
    (19, .i .u64, .fn 16 [.v 0, .v 1, .v 2, .v 3, .v 4, .v 5] 5),
    (18, .i .u64, .fn 16 [.v 0, .v 1, .v 2, .v 3, .v 4, .v 5] 4),
    (17, .i .u64, .fn 16 [.v 0, .v 1, .v 2, .v 3, .v 4, .v 5] 3),
    (16, .i .u64, .fn 16 [.v 0, .v 1, .v 2, .v 3, .v 4, .v 5] 2),
    (15, .i .u64, .fn 16 [.v 0, .v 1, .v 2, .v 3, .v 4, .v 5] 1),
    (14, .i .u64, .fn 16 [.v 0, .v 1, .v 2, .v 3, .v 4, .v 5] 0),
    (13, .bool, .not (.v 12)),
    (12, .bool, .fn 9 [.v 0, .v 1, .v 2, .v 3, .v 4, .v 5, .v 6, .v 7, .v 8, .v 9, .v 10, .v 11] 0),
    (11, .i .u64, .fn 10 [] 5),
    (10, .i .u64, .fn 10 [] 4),
    (9, .i .u64, .fn 10 [] 3),
    (8, .i .u64, .fn 10 [] 2),
    (7, .i .u64, .fn 10 [] 1),
    (6, .i .u64, .fn 10 [] 0)],
    [(.v 26, false), (.v 13, false)], [.c 0]⟩))
theorem chk_lNegAdd : checkFn Try.prog [(9, su_less), (10, su_prime), (16, su_iNeg), (18, su_iAdd), (19, su_iSub)] su_lNegAdd 400 Try.f8 (fun _ => t_lNegAdd0) = true := by kernel_rfl
theorem ok_lNegAdd : SummOK Try.prog 8 su_lNegAdd (Phi 8) := by
  refine summ_fn (Φ := Phi) 400 (fun _ => t_lNegAdd0) Try.func8 (tbl_cons ok_less (tbl_cons ok_prime (tbl_cons ok_iNeg (tbl_cons ok_iAdd (tbl_cons ok_iSub tbl_nil))))) chk_lNegAdd ?_
  intro al hal l hl ρ hk hs ha
  have hn : su_lNegAdd.inKinds.length = 6 := rfl
  have hr : row ρ 6 = [ρ 0, ρ 1, ρ 2, ρ 3, ρ 4, ρ 5] := rfl
  rw [hn, hr] at hk ⊢
  simp only [su_lNegAdd, Summ.inKinds, List.flatMap_cons, List.flatMap_nil, List.replicate, List.cons_append, List.nil_append, List.append_nil, holdsAll, K.holds] at hk
  obtain ⟨b0, b1, b2, b3, b4, b5, _⟩ := hk
  simp only [t_lNegAdd0, CT.leaves, List.cons_append, List.nil_append, List.mem_cons, List.not_mem_nil, or_false] at hl
  rcases hl with rfl | rfl | rfl | rfl
  · simp only [satTr_cons, satTr_nil, sv_lss, sv_leq, sv_gtr, sv_geq, sv_eql, sv_neq, sv_not, sv_beq, sv_pick, sv_add, sv_sub, sv_fn, sv_eqs, E.den, List.map, K.holds] at hs
    simp only [asrOK_cons, asrOK_nil, if_true, if_false, Bool.false_eq_true, E.den] at ha
    obtain ⟨⟨h13, k13⟩, ⟨h12, k12⟩, ⟨h11, k11⟩, ⟨h10, k10⟩, ⟨h9, k9⟩, ⟨h8, k8⟩, ⟨h7, k7⟩, ⟨h6, k6⟩, _⟩ := hs
    obtain ⟨a0, _⟩ := ha
    have g6 : [ρ 6, ρ 7, ρ 8, ρ 9, ρ 10, ρ 11] = wds 6 q := get6 rfl h6 h7 h8 h9 h10 h11
    have e12 : ρ 12 = b2i (decide (val [ρ 0, ρ 1, ρ 2, ρ 3, ρ 4, ρ 5] < val [ρ 6, ρ 7, ρ 8, ρ 9, ρ 10, ρ 11])) := h12
    rw [st_dec] at e12
    rfl
  · simp only [satTr_cons, satTr_nil, sv_lss, sv_leq, sv_gtr, sv_geq, sv_eql, sv_neq, sv_not, sv_beq, sv_pick, sv_add, sv_sub, sv_fn, sv_eqs, E.den, List.map, K.holds] at hs
    simp only [asrOK_cons, asrOK_nil, if_true, if_false, Bool.false_eq_true, E.den] at ha
    obtain ⟨⟨h40, k40⟩, ⟨h39, k39⟩, ⟨h38, k38⟩, ⟨h37, k37⟩, ⟨h36, k36⟩, ⟨h35, k35⟩, ⟨h34, k34⟩, ⟨h33, k33⟩, ⟨h32, k32⟩, ⟨h31, k31⟩, ⟨h30, k30⟩, ⟨h29, k29⟩, ⟨h28, k28⟩, ⟨h27, k27⟩, ⟨h26, k26⟩, ⟨h25, k25⟩, ⟨h24, k24⟩, ⟨h23, k23⟩, ⟨h22, k22⟩, ⟨h21, k21⟩, ⟨h20, k20⟩, ⟨h19, k19⟩, ⟨h18, k18⟩, ⟨h17, k17⟩, ⟨h16, k16⟩, ⟨h15, k15⟩, ⟨h14, k14⟩, ⟨h13, k13⟩, ⟨h12, k12⟩, ⟨h11, k11⟩, ⟨h10, k10⟩, ⟨h9, k9⟩, ⟨h8, k8⟩, ⟨h7, k7⟩, ⟨h6, k6⟩, _⟩ := hs
    obtain ⟨a0, a1, a2, _⟩ := ha
    have g6 : [ρ 6, ρ 7, ρ 8, ρ 9, ρ 10, ρ 11] = wds 6 q := get6 rfl h6 h7 h8 h9 h10 h11
    have e12 : ρ 12 = b2i (decide (val [ρ 0, ρ 1, ρ 2, ρ 3, ρ 4, ρ 5] < val [ρ 6, ρ 7, ρ 8, ρ 9, ρ 10, ρ 11])) := h12
    rw [st_dec] at e12
    have g14 : [ρ 14, ρ 15, ρ 16, ρ 17, ρ 18, ρ 19] = wds 6 (eNeg q (val [ρ 0, ρ 1, ρ 2, ρ 3, ρ 4, ρ 5])) := get6 rfl h14 h15 h16 h17 h18 h19
    have g20 : [ρ 20, ρ 21, ρ 22, ρ 23, ρ 24, ρ 25] = wds 6 (eAdd 6 q (val [ρ 0, ρ 1, ρ 2, ρ 3, ρ 4, ρ 5]) (val [ρ 14, ρ 15, ρ 16, ρ 17, ρ 18, ρ 19])) := get6 rfl h20 h21 h22 h23 h24 h25
    have g27 : [ρ 27, ρ 28, ρ 29, ρ 30, ρ 31, ρ 32] = wds 6 (eNeg q (val [ρ 14, ρ 15, ρ 16, ρ 17, ρ 18, ρ 19])) := get6 rfl h27 h28 h29 h30 h31 h32
    have g34 : [ρ 34, ρ 35, ρ 36, ρ 37, ρ 38, ρ 39] = wds 6 (subM (val [0, 0, 0, 0, 0, 0]) (val [ρ 0, ρ 1, ρ 2, ρ 3, ρ 4, ρ 5]) q) := get6 rfl h34 h35 h36 h37 h38 h39
    have hp : val (wds 6 q) = q := by kernel_rfl
    rw [g6, hp] at e12
    have ha : val [ρ 0, ρ 1, ρ 2, ρ 3, ρ 4, ρ 5] < q := by omega
    have hz : wds 6 0 = [0, 0, 0, 0, 0, 0] := by kernel_rfl
    have f1 : [ρ 20, ρ 21, ρ 22, ρ 23, ρ 24, ρ 25] = [0, 0, 0, 0, 0, 0] := by rw [g20, g14, law_neg_add (u64s_cons b0 (u64s_cons b1 (u64s_cons b2 (u64s_cons b3 (u64s_cons b4 (u64s_cons b5 u64s_nil)))))) ha (by decide), hz]
    have f2 : [ρ 27, ρ 28, ρ 29, ρ 30, ρ 31, ρ 32] = [ρ 0, ρ 1, ρ 2, ρ 3, ρ 4, ρ 5] := by rw [g27, g14]; exact law_neg_neg (u64s_cons b0 (u64s_cons b1 (u64s_cons b2 (u64s_cons b3 (u64s_cons b4 (u64s_cons b5 u64s_nil)))))) rfl ha (by decide)
    have h0 : val [0, 0, 0, 0, 0, 0] = 0 := by kernel_rfl
    have f3 : [ρ 34, ρ 35, ρ 36, ρ 37, ρ 38, ρ 39] = [ρ 14, ρ 15, ρ 16, ρ 17, ρ 18, ρ 19] := by rw [g34, g14, h0]; exact law_neg_sub (u64s_cons b0 (u64s_cons b1 (u64s_cons b2 (u64s_cons b3 (u64s_cons b4 (u64s_cons b5 u64s_nil)))))) ha
    simp only [f3, true_and, not_true_eq_false, false_and, or_false] at h40
    change [1] = [ρ 40]
    rw [h40]
  · simp only [satTr_cons, satTr_nil, sv_lss, sv_leq, sv_gtr, sv_geq, sv_eql, sv_neq, sv_not, sv_beq, sv_pick, sv_add, sv_sub, sv_fn, sv_eqs, E.den, List.map, K.holds] at hs
    simp only [asrOK_cons, asrOK_nil, if_true, if_false, Bool.false_eq_true, E.den] at ha
    obtain ⟨⟨h33, k33⟩, ⟨h32, k32⟩, ⟨h31, k31⟩, ⟨h30, k30⟩, ⟨h29, k29⟩, ⟨h28, k28⟩, ⟨h27, k27⟩, ⟨h26, k26⟩, ⟨h25, k25⟩, ⟨h24, k24⟩, ⟨h23, k23⟩, ⟨h22, k22⟩, ⟨h21, k21⟩, ⟨h20, k20⟩, ⟨h19, k19⟩, ⟨h18, k18⟩, ⟨h17, k17⟩, ⟨h16, k16⟩, ⟨h15, k15⟩, ⟨h14, k14⟩, ⟨h13, k13⟩, ⟨h12, k12⟩, ⟨h11, k11⟩, ⟨h10, k10⟩, ⟨h9, k9⟩, ⟨h8, k8⟩, ⟨h7, k7⟩, ⟨h6, k6⟩, _⟩ := hs
    obtain ⟨a0, a1, a2, _⟩ := ha
    have g6 : [ρ 6, ρ 7, ρ 8, ρ 9, ρ 10, ρ 11] = wds 6 q := get6 rfl h6 h7 h8 h9 h10 h11
    have e12 : ρ 12 = b2i (decide (val [ρ 0, ρ 1, ρ 2, ρ 3, ρ 4, ρ 5] < val [ρ 6, ρ 7, ρ 8, ρ 9, ρ 10, ρ 11])) := h12
    rw [st_dec] at e12
    have g14 : [ρ 14, ρ 15, ρ 16, ρ 17, ρ 18, ρ 19] = wds 6 (eNeg q (val [ρ 0, ρ 1, ρ 2, ρ 3, ρ 4, ρ 5])) := get6 rfl h14 h15 h16 h17 h18 h19
    have g20 : [ρ 20, ρ 21, ρ 22, ρ 23, ρ 24, ρ 25] = wds 6 (eAdd 6 q (val [ρ 0, ρ 1, ρ 2, ρ 3, ρ 4, ρ 5]) (val [ρ 14, ρ 15, ρ 16, ρ 17, ρ 18, ρ 19])) := get6 rfl h20 h21 h22 h23 h24 h25
    have g27 : [ρ 27, ρ 28, ρ 29, ρ 30, ρ 31, ρ 32] = wds 6 (eNeg q (val [ρ 14, ρ 15, ρ 16, ρ 17, ρ 18, ρ 19])) := get6 rfl h27 h28 h29 h30 h31 h32
    have hp : val (wds 6 q) = q := by kernel_rfl
    rw [g6, hp] at e12
    have ha : val [ρ 0, ρ 1, ρ 2, ρ 3, ρ 4, ρ 5] < q := by omega
    have hz : wds 6 0 = [0, 0, 0, 0, 0, 0] := by kernel_rfl
    have f1 : [ρ 20, ρ 21, ρ 22, ρ 23, ρ 24, ρ 25] = [0, 0, 0, 0, 0, 0] := by rw [g20, g14, law_neg_add (u64s_cons b0 (u64s_cons b1 (u64s_cons b2 (u64s_cons b3 (u64s_cons b4 (u64s_cons b5 u64s_nil)))))) ha (by decide), hz]
    have f2 : [ρ 27, ρ 28, ρ 29, ρ 30, ρ 31, ρ 32] = [ρ 0, ρ 1, ρ 2, ρ 3, ρ 4, ρ 5] := by rw [g27, g14]; exact law_neg_neg (u64s_cons b0 (u64s_cons b1 (u64s_cons b2 (u64s_cons b3 (u64s_cons b4 (u64s_cons b5 u64s_nil)))))) rfl ha (by decide)
    simp only [f2, true_and, not_true_eq_false, false_and, or_false] at h33
    omega
  · simp only [satTr_cons, satTr_nil, sv_lss, sv_leq, sv_gtr, sv_geq, sv_eql, sv_neq, sv_not, sv_beq, sv_pick, sv_add, sv_sub, sv_fn, sv_eqs, E.den, List.map, K.holds] at hs
    simp only [asrOK_cons, asrOK_nil, if_true, if_false, Bool.false_eq_true, E.den] at ha
    obtain ⟨⟨h26, k26⟩, ⟨h25, k25⟩, ⟨h24, k24⟩, ⟨h23, k23⟩, ⟨h22, k22⟩, ⟨h21, k21⟩, ⟨h20, k20⟩, ⟨h19, k19⟩, ⟨h18, k18⟩, ⟨h17, k17⟩, ⟨h16, k16⟩, ⟨h15, k15⟩, ⟨h14, k14⟩, ⟨h13, k13⟩, ⟨h12, k12⟩, ⟨h11, k11⟩, ⟨h10, k10⟩, ⟨h9, k9⟩, ⟨h8, k8⟩, ⟨h7, k7⟩, ⟨h6, k6⟩, _⟩ := hs
    obtain ⟨a0, a1, _⟩ := ha
    have g6 : [ρ 6, ρ 7, ρ 8, ρ 9, ρ 10, ρ 11] = wds 6 q := get6 rfl h6 h7 h8 h9 h10 h11
    have e12 : ρ 12 = b2i (decide (val [ρ 0, ρ 1, ρ 2, ρ 3, ρ 4, ρ 5] < val [ρ 6, ρ 7, ρ 8, ρ 9, ρ 10, ρ 11])) := h12
    rw [st_dec] at e12
    have g14 : [ρ 14, ρ 15, ρ 16, ρ 17, ρ 18, ρ 19] = wds 6 (eNeg q (val [ρ 0, ρ 1, ρ 2, ρ 3, ρ 4, ρ 5])) := get6 rfl h14 h15 h16 h17 h18 h19
    have g20 : [ρ 20, ρ 21, ρ 22, ρ 23, ρ 24, ρ 25] = wds 6 (eAdd 6 q (val [ρ 0, ρ 1, ρ 2, ρ 3, ρ 4, ρ 5]) (val [ρ 14, ρ 15, ρ 16, ρ 17, ρ 18, ρ 19])) := get6 rfl h20 h21 h22 h23 h24 h25
    have hp : val (wds 6 q) = q := by kernel_rfl
    rw [g6, hp] at e12
    have ha : val [ρ 0, ρ 1, ρ 2, ρ 3, ρ 4, ρ 5] < q := by omega
    have hz : wds 6 0 = [0, 0, 0, 0, 0, 0] := by kernel_rfl
    have f1 : [ρ 20, ρ 21, ρ 22, ρ 23, ρ 24, ρ 25] = [0, 0, 0, 0, 0, 0] := by rw [g20, g14, law_neg_add (u64s_cons b0 (u64s_cons b1 (u64s_cons b2 (u64s_cons b3 (u64s_cons b4 (u64s_cons b5 u64s_nil)))))) ha (by decide), hz]
    simp only [f1, true_and, not_true_eq_false, false_and, or_false] at h26
    omega

end Go.Proofs.Ytifnkaddhaddmaa
