/- The functions of the seat Ytonabpmbcojbeaa, each once: its ways through the text, and what it comes to in numbers. Written by a program (gen.py). -/
import Derived.Test.YtonabpmbcojbeaaSymU
import Derived.Test.YtonabpmbcojbeaaSymZ
import Derived.Test.YtonabpmbcojbeaaRows
set_option linter.unusedVariables false
set_option linter.unusedSimpArgs false
set_option maxRecDepth 4000
namespace Go.Proofs.Ytonabpmbcojbeaa
open Go.Sym

def q : Int := 4002409555221667393417789825735904156556882819939007885332058136124031650490837864442687629129015664037894272559787
def r : Int := 3380320199399472671518931668520476396067793891014375699959770179129436917079669831430077592723774664465579537268733

def Phi : Nat → List Int → List Int
  | 8 => lessF 6
  | 9 => primeF 6 q
  | 16 => setF 6 r
  | 18 => smallF q
  | 14 => eaddF 6 q
  | 13 => setF 6 r
  | 6 => setF 6 r
  | 7 => aaddF 6 q
  | 17 => add64F
  | 19 => sub64F
  | _ => fun _ => []

theorem ok_add64 : SummOK Try.prog 17 addSub (Phi 17) := summ_add64 Try.func17 (by kernel_rfl) (by kernel_rfl) (by kernel_rfl) (by kernel_rfl)

theorem ok_sub64 : SummOK Try.prog 19 addSub (Phi 19) := summ_sub64 Try.func19 (by kernel_rfl) (by kernel_rfl) (by kernel_rfl) (by kernel_rfl)

/-! ### less -/
def su_less : Summ := ⟨[.slc 6, .slc 6], none, [.sc .bool]⟩
def t_less0 : CT := .node (.v 12)
  (.leaf ⟨[(13, .bool, .cmp .lss (.v 5) (.v 11)),
    (12, .bool, .cmp .neq (.v 5) (.v 11))],
    [(.v 12, true)], [.v 13]⟩)
  (.node (.v 13)
  (.leaf ⟨[(14, .bool, .cmp .lss (.v 4) (.v 10)),
    (13, .bool, .cmp .neq (.v 4) (.v 10)),
    (12, .bool, .cmp .neq (.v 5) (.v 11))],
    [(.v 13, true), (.v 12, false)], [.v 14]⟩)
  (.node (.v 14)
  (.leaf ⟨[(15, .bool, .cmp .lss (.v 3) (.v 9)),
    (14, .bool, .cmp .neq (.v 3) (.v 9)),
    (13, .bool, .cmp .neq (.v 4) (.v 10)),
    (12, .bool, .cmp .neq (.v 5) (.v 11))],
    [(.v 14, true), (.v 13, false), (.v 12, false)], [.v 15]⟩)
  (.node (.v 15)
  (.leaf ⟨[(16, .bool, .cmp .lss (.v 2) (.v 8)),
    (15, .bool, .cmp .neq (.v 2) (.v 8)),
    (14, .bool, .cmp .neq (.v 3) (.v 9)),
    (13, .bool, .cmp .neq (.v 4) (.v 10)),
    (12, .bool, .cmp .neq (.v 5) (.v 11))],
    [(.v 15, true), (.v 14, false), (.v 13, false), (.v 12, false)], [.v 16]⟩)
  (.node (.v 16)
  (.leaf ⟨[(17, .bool, .cmp .lss (.v 1) (.v 7)),
    (16, .bool, .cmp .neq (.v 1) (.v 7)),
    (15, .bool, .cmp .neq (.v 2) (.v 8)),
    (14, .bool, .cmp .neq (.v 3) (.v 9)),
    (13, .bool, .cmp .neq (.v 4) (.v 10)),
    (12, .bool, .cmp .neq (.v 5) (.v 11))],
    [(.v 16, true), (.v 15, false), (.v 14, false), (.v 13, false), (.v 12, false)], [.v 17]⟩)
  (.node (.v 17)
  (.leaf ⟨[(18, .bool, .cmp .lss (.v 0) (.v 6)),
    (17, .bool, .cmp .neq (.v 0) (.v 6)),
    (16, .bool, .cmp .neq (.v 1) (.v 7)),
    (15, .bool, .cmp .neq (.v 2) (.v 8)),
    (14, .bool, .cmp .neq (.v 3) (.v 9)),
    (13, .bool, .cmp .neq (.v 4) (.v 10)),
    (12, .bool, .cmp .neq (.v 5) (.v 11))],
    [(.v 17, true), (.v 16, false), (.v 15, false), (.v 14, false), (.v 13, false), (.v 12, false)], [.v 18]⟩)
  (.leaf ⟨[(17, .bool, .cmp .neq (.v 0) (.v 6)),
    (16, .bool, .cmp .neq (.v 1) (.v 7)),
    (15, .bool, .cmp .neq (.v 2) (.v 8)),
    (14, .bool, .cmp .neq (.v 3) (.v 9)),
    (13, .bool, .cmp .neq (.v 4) (.v 10)),
    (12, .bool, .cmp .neq (.v 5) (.v 11))],
    [(.v 17, false), (.v 16, false), (.v 15, false), (.v 14, false), (.v 13, false), (.v 12, false)], [.c 0]⟩))))))
theorem chk_less : checkFn Try.prog [] su_less 400 Try.f8 (fun _ => t_less0) = true := by kernel_rfl
theorem ok_less : SummOK Try.prog 8 su_less (Phi 8) := by
  refine summ_fn (Φ := Phi) 400 (fun _ => t_less0) Try.func8 tbl_nil chk_less ?_
  intro al hal l hl ρ hk hs ha
  have hn : su_less.inKinds.length = 12 := rfl
  have hr : row ρ 12 = [ρ 0, ρ 1, ρ 2, ρ 3, ρ 4, ρ 5, ρ 6, ρ 7, ρ 8, ρ 9, ρ 10, ρ 11] := rfl
  rw [hn, hr] at hk ⊢
  simp only [su_less, Summ.inKinds, List.flatMap_cons, List.flatMap_nil, List.replicate, List.cons_append, List.nil_append, List.append_nil, holdsAll, K.holds] at hk
  obtain ⟨b0, b1, b2, b3, b4, b5, b6, b7, b8, b9, b10, b11, _⟩ := hk
  simp only [t_less0, CT.leaves, List.cons_append, List.nil_append, List.mem_cons, List.not_mem_nil, or_false] at hl
  rcases hl with rfl | rfl | rfl | rfl | rfl | rfl | rfl
  · simp only [satTr_cons, satTr_nil, sv_lss, sv_leq, sv_gtr, sv_geq, sv_eql, sv_neq, sv_not, sv_beq, sv_pick, sv_add, sv_sub, sv_fn, sv_eqs, E.den, List.map, K.holds] at hs
    simp only [asrOK_cons, asrOK_nil, if_true, if_false, Bool.false_eq_true, E.den] at ha
    obtain ⟨⟨h13, k13⟩, ⟨h12, k12⟩, _⟩ := hs
    obtain ⟨a0, _⟩ := ha
    refine dec_one (p := val [ρ 0, ρ 1, ρ 2, ρ 3, ρ 4, ρ 5] < val [ρ 6, ρ 7, ρ 8, ρ 9, ρ 10, ρ 11]) (z := ρ 13) ?_
    simp only [val, q, List.cons.injEq, and_true]
    omega
  · simp only [satTr_cons, satTr_nil, sv_lss, sv_leq, sv_gtr, sv_geq, sv_eql, sv_neq, sv_not, sv_beq, sv_pick, sv_add, sv_sub, sv_fn, sv_eqs, E.den, List.map, K.holds] at hs
    simp only [asrOK_cons, asrOK_nil, if_true, if_false, Bool.false_eq_true, E.den] at ha
    obtain ⟨⟨h14, k14⟩, ⟨h13, k13⟩, ⟨h12, k12⟩, _⟩ := hs
    obtain ⟨a0, a1, _⟩ := ha
    refine dec_one (p := val [ρ 0, ρ 1, ρ 2, ρ 3, ρ 4, ρ 5] < val [ρ 6, ρ 7, ρ 8, ρ 9, ρ 10, ρ 11]) (z := ρ 14) ?_
    simp only [val, q, List.cons.injEq, and_true]
    omega
  · simp only [satTr_cons, satTr_nil, sv_lss, sv_leq, sv_gtr, sv_geq, sv_eql, sv_neq, sv_not, sv_beq, sv_pick, sv_add, sv_sub, sv_fn, sv_eqs, E.den, List.map, K.holds] at hs
    simp only [asrOK_cons, asrOK_nil, if_true, if_false, Bool.false_eq_true, E.den] at ha
    obtain ⟨⟨h15, k15⟩, ⟨h14, k14⟩, ⟨h13, k13⟩, ⟨h12, k12⟩, _⟩ := hs
    obtain ⟨a0, a1, a2, _⟩ := ha
    refine dec_one (p := val [ρ 0, ρ 1, ρ 2, ρ 3, ρ 4, ρ 5] < val [ρ 6, ρ 7, ρ 8, ρ 9, ρ 10, ρ 11]) (z := ρ 15) ?_
    simp only [val, q, List.cons.injEq, and_true]
    omega
  · simp only [satTr_cons, satTr_nil, sv_lss, sv_leq, sv_gtr, sv_geq, sv_eql, sv_neq, sv_not, sv_beq, sv_pick, sv_add, sv_sub, sv_fn, sv_eqs, E.den, List.map, K.holds] at hs
    simp only [asrOK_cons, asrOK_nil, if_true, if_false, Bool.false_eq_true, E.den] at ha
    obtain ⟨⟨h16, k16⟩, ⟨h15, k15⟩, ⟨h14, k14⟩, ⟨h13, k13⟩, ⟨h12, k12⟩, _⟩ := hs
    obtain ⟨a0, a1, a2, a3, _⟩ := ha
    refine dec_one (p := val [ρ 0, ρ 1, ρ 2, ρ 3, ρ 4, ρ 5] < val [ρ 6, ρ 7, ρ 8, ρ 9, ρ 10, ρ 11]) (z := ρ 16) ?_
    simp only [val, q, List.cons.injEq, and_true]
    omega
  · simp only [satTr_cons, satTr_nil, sv_lss, sv_leq, sv_gtr, sv_geq, sv_eql, sv_neq, sv_not, sv_beq, sv_pick, sv_add, sv_sub, sv_fn, sv_eqs, E.den, List.map, K.holds] at hs
    simp only [asrOK_cons, asrOK_nil, if_true, if_false, Bool.false_eq_true, E.den] at ha
    obtain ⟨⟨h17, k17⟩, ⟨h16, k16⟩, ⟨h15, k15⟩, ⟨h14, k14⟩, ⟨h13, k13⟩, ⟨h12, k12⟩, _⟩ := hs
    obtain ⟨a0, a1, a2, a3, a4, _⟩ := ha
    refine dec_one (p := val [ρ 0, ρ 1, ρ 2, ρ 3, ρ 4, ρ 5] < val [ρ 6, ρ 7, ρ 8, ρ 9, ρ 10, ρ 11]) (z := ρ 17) ?_
    simp only [val, q, List.cons.injEq, and_true]
    omega
  · simp only [satTr_cons, satTr_nil, sv_lss, sv_leq, sv_gtr, sv_geq, sv_eql, sv_neq, sv_not, sv_beq, sv_pick, sv_add, sv_sub, sv_fn, sv_eqs, E.den, List.map, K.holds] at hs
    simp only [asrOK_cons, asrOK_nil, if_true, if_false, Bool.false_eq_true, E.den] at ha
    obtain ⟨⟨h18, k18⟩, ⟨h17, k17⟩, ⟨h16, k16⟩, ⟨h15, k15⟩, ⟨h14, k14⟩, ⟨h13, k13⟩, ⟨h12, k12⟩, _⟩ := hs
    obtain ⟨a0, a1, a2, a3, a4, a5, _⟩ := ha
    refine dec_one (p := val [ρ 0, ρ 1, ρ 2, ρ 3, ρ 4, ρ 5] < val [ρ 6, ρ 7, ρ 8, ρ 9, ρ 10, ρ 11]) (z := ρ 18) ?_
    simp only [val, q, List.cons.injEq, and_true]
    omega
  · simp only [satTr_cons, satTr_nil, sv_lss, sv_leq, sv_gtr, sv_geq, sv_eql, sv_neq, sv_not, sv_beq, sv_pick, sv_add, sv_sub, sv_fn, sv_eqs, E.den, List.map, K.holds] at hs
    simp only [asrOK_cons, asrOK_nil, if_true, if_false, Bool.false_eq_true, E.den] at ha
    obtain ⟨⟨h17, k17⟩, ⟨h16, k16⟩, ⟨h15, k15⟩, ⟨h14, k14⟩, ⟨h13, k13⟩, ⟨h12, k12⟩, _⟩ := hs
    obtain ⟨a0, a1, a2, a3, a4, a5, _⟩ := ha
    refine dec_one (p := val [ρ 0, ρ 1, ρ 2, ρ 3, ρ 4, ρ 5] < val [ρ 6, ρ 7, ρ 8, ρ 9, ρ 10, ρ 11]) (z := 0) ?_
    simp only [val, q, List.cons.injEq, and_true]
    omega

/-! ### prime -/
def su_prime : Summ := ⟨[], none, [.slc 6]⟩
def t_prime0 : CT := .leaf ⟨[],
    [], [.c 13402431016077863595, .c 2210141511517208575, .c 7435674573564081700, .c 7239337960414712511, .c 5412103778470702295, .c 1873798617647539866]⟩
theorem chk_prime : checkFn Try.prog [] su_prime 400 Try.f9 (fun _ => t_prime0) = true := by kernel_rfl
theorem ok_prime : SummOK Try.prog 9 su_prime (Phi 9) := by
  refine summ_fn (Φ := Phi) 400 (fun _ => t_prime0) Try.func9 tbl_nil chk_prime ?_
  intro al hal l hl ρ hk hs ha
  have hn : su_prime.inKinds.length = 0 := rfl
  have hr : row ρ 0 = [] := rfl
  rw [hn, hr] at hk ⊢
  simp only [su_prime, Summ.inKinds, List.flatMap_cons, List.flatMap_nil, List.replicate, List.cons_append, List.nil_append, List.append_nil, holdsAll, K.holds] at hk
  simp only [t_prime0, CT.leaves, List.cons_append, List.nil_append, List.mem_cons, List.not_mem_nil, or_false] at hl
  subst hl
  simp only [satTr_cons, satTr_nil, sv_lss, sv_leq, sv_gtr, sv_geq, sv_eql, sv_neq, sv_not, sv_beq, sv_pick, sv_add, sv_sub, sv_fn, sv_eqs, E.den, List.map, K.holds] at hs
  simp only [asrOK_cons, asrOK_nil, if_true, if_false, Bool.false_eq_true, E.den] at ha
  clear hs
  clear ha
  change wds 6 q = [13402431016077863595, 2210141511517208575, 7435674573564081700, 7239337960414712511, 5412103778470702295, 1873798617647539866]
  kernel_rfl

/-! ### small -/
def su_small : Summ := ⟨[.ptr 6], none, [.sc .bool]⟩
def t_small0 : CT := .node (.v 6)
  (.leaf ⟨[(6, .bool, .cmp .lss (.v 5) (.c 1873798617647539866))],
    [(.v 6, true)], [.c 1]⟩)
  (.node (.v 7)
  (.node (.v 8)
  (.leaf ⟨[(8, .bool, .cmp .lss (.v 4) (.c 5412103778470702295)),
    (7, .bool, .cmp .eql (.v 5) (.c 1873798617647539866)),
    (6, .bool, .cmp .lss (.v 5) (.c 1873798617647539866))],
    [(.v 8, true), (.v 7, true), (.v 6, false)], [.c 1]⟩)
  (.node (.v 9)
  (.node (.v 10)
  (.leaf ⟨[(10, .bool, .cmp .lss (.v 3) (.c 7239337960414712511)),
    (9, .bool, .cmp .eql (.v 4) (.c 5412103778470702295)),
    (8, .bool, .cmp .lss (.v 4) (.c 5412103778470702295)),
    (7, .bool, .cmp .eql (.v 5) (.c 1873798617647539866)),
    (6, .bool, .cmp .lss (.v 5) (.c 1873798617647539866))],
    [(.v 10, true), (.v 9, true), (.v 8, false), (.v 7, true), (.v 6, false)], [.c 1]⟩)
  (.node (.v 11)
  (.node (.v 12)
  (.leaf ⟨[(12, .bool, .cmp .lss (.v 2) (.c 7435674573564081700)),
    (11, .bool, .cmp .eql (.v 3) (.c 7239337960414712511)),
    (10, .bool, .cmp .lss (.v 3) (.c 7239337960414712511)),
    (9, .bool, .cmp .eql (.v 4) (.c 5412103778470702295)),
    (8, .bool, .cmp .lss (.v 4) (.c 5412103778470702295)),
    (7, .bool, .cmp .eql (.v 5) (.c 1873798617647539866)),
    (6, .bool, .cmp .lss (.v 5) (.c 1873798617647539866))],
    [(.v 12, true), (.v 11, true), (.v 10, false), (.v 9, true), (.v 8, false), (.v 7, true), (.v 6, false)], [.c 1]⟩)
  (.node (.v 13)
  (.node (.v 14)
  (.leaf ⟨[(14, .bool, .cmp .lss (.v 1) (.c 2210141511517208575)),
    (13, .bool, .cmp .eql (.v 2) (.c 7435674573564081700)),
    (12, .bool, .cmp .lss (.v 2) (.c 7435674573564081700)),
    (11, .bool, .cmp .eql (.v 3) (.c 7239337960414712511)),
    (10, .bool, .cmp .lss (.v 3) (.c 7239337960414712511)),
    (9, .bool, .cmp .eql (.v 4) (.c 5412103778470702295)),
    (8, .bool, .cmp .lss (.v 4) (.c 5412103778470702295)),
    (7, .bool, .cmp .eql (.v 5) (.c 1873798617647539866)),
    (6, .bool, .cmp .lss (.v 5) (.c 1873798617647539866))],
    [(.v 14, true), (.v 13, true), (.v 12, false), (.v 11, true), (.v 10, false), (.v 9, true), (.v 8, false), (.v 7, true), (.v 6, false)], [.c 1]⟩)
  (.node (.v 15)
  (.leaf ⟨[(16, .bool, .cmp .lss (.v 0) (.c 13402431016077863595)),
    (15, .bool, .cmp .eql (.v 1) (.c 2210141511517208575)),
    (14, .bool, .cmp .lss (.v 1) (.c 2210141511517208575)),
    (13, .bool, .cmp .eql (.v 2) (.c 7435674573564081700)),
    (12, .bool, .cmp .lss (.v 2) (.c 7435674573564081700)),
    (11, .bool, .cmp .eql (.v 3) (.c 7239337960414712511)),
    (10, .bool, .cmp .lss (.v 3) (.c 7239337960414712511)),
    (9, .bool, .cmp .eql (.v 4) (.c 5412103778470702295)),
    (8, .bool, .cmp .lss (.v 4) (.c 5412103778470702295)),
    (7, .bool, .cmp .eql (.v 5) (.c 1873798617647539866)),
    (6, .bool, .cmp .lss (.v 5) (.c 1873798617647539866))],
    [(.v 15, true), (.v 14, false), (.v 13, true), (.v 12, false), (.v 11, true), (.v 10, false), (.v 9, true), (.v 8, false), (.v 7, true), (.v 6, false)], [.v 16]⟩)
  (.leaf ⟨[(15, .bool, .cmp .eql (.v 1) (.c 2210141511517208575)),
    (14, .bool, .cmp .lss (.v 1) (.c 2210141511517208575)),
    (13, .bool, .cmp .eql (.v 2) (.c 7435674573564081700)),
    (12, .bool, .cmp .lss (.v 2) (.c 7435674573564081700)),
    (11, .bool, .cmp .eql (.v 3) (.c 7239337960414712511)),
    (10, .bool, .cmp .lss (.v 3) (.c 7239337960414712511)),
    (9, .bool, .cmp .eql (.v 4) (.c 5412103778470702295)),
    (8, .bool, .cmp .lss (.v 4) (.c 5412103778470702295)),
    (7, .bool, .cmp .eql (.v 5) (.c 1873798617647539866)),
    (6, .bool, .cmp .lss (.v 5) (.c 1873798617647539866))],
    [(.v 15, false), (.v 14, false), (.v 13, true), (.v 12, false), (.v 11, true), (.v 10, false), (.v 9, true), (.v 8, false), (.v 7, true), (.v 6, false)], [.c 0]⟩)))
  (.leaf ⟨[(13, .bool, .cmp .eql (.v 2) (.c 7435674573564081700)),
    (12, .bool, .cmp .lss (.v 2) (.c 7435674573564081700)),
    (11, .bool, .cmp .eql (.v 3) (.c 7239337960414712511)),
    (10, .bool, .cmp .lss (.v 3) (.c 7239337960414712511)),
    (9, .bool, .cmp .eql (.v 4) (.c 5412103778470702295)),
    (8, .bool, .cmp .lss (.v 4) (.c 5412103778470702295)),
    (7, .bool, .cmp .eql (.v 5) (.c 1873798617647539866)),
    (6, .bool, .cmp .lss (.v 5) (.c 1873798617647539866))],
    [(.v 13, false), (.v 12, false), (.v 11, true), (.v 10, false), (.v 9, true), (.v 8, false), (.v 7, true), (.v 6, false)], [.c 0]⟩)))
  (.leaf ⟨[(11, .bool, .cmp .eql (.v 3) (.c 7239337960414712511)),
    (10, .bool, .cmp .lss (.v 3) (.c 7239337960414712511)),
    (9, .bool, .cmp .eql (.v 4) (.c 5412103778470702295)),
    (8, .bool, .cmp .lss (.v 4) (.c 5412103778470702295)),
    (7, .bool, .cmp .eql (.v 5) (.c 1873798617647539866)),
    (6, .bool, .cmp .lss (.v 5) (.c 1873798617647539866))],
    [(.v 11, false), (.v 10, false), (.v 9, true), (.v 8, false), (.v 7, true), (.v 6, false)], [.c 0]⟩)))
  (.leaf ⟨[(9, .bool, .cmp .eql (.v 4) (.c 5412103778470702295)),
    (8, .bool, .cmp .lss (.v 4) (.c 5412103778470702295)),
    (7, .bool, .cmp .eql (.v 5) (.c 1873798617647539866)),
    (6, .bool, .cmp .lss (.v 5) (.c 1873798617647539866))],
    [(.v 9, false), (.v 8, false), (.v 7, true), (.v 6, false)], [.c 0]⟩)))
  (.leaf ⟨[(7, .bool, .cmp .eql (.v 5) (.c 1873798617647539866)),
    (6, .bool, .cmp .lss (.v 5) (.c 1873798617647539866))],
    [(.v 7, false), (.v 6, false)], [.c 0]⟩))
theorem chk_small : checkFn Try.prog [] su_small 400 Try.f18 (fun _ => t_small0) = true := by kernel_rfl
theorem ok_small : SummOK Try.prog 18 su_small (Phi 18) := by
  refine summ_fn (Φ := Phi) 400 (fun _ => t_small0) Try.func18 tbl_nil chk_small ?_
  intro al hal l hl ρ hk hs ha
  have hn : su_small.inKinds.length = 6 := rfl
  have hr : row ρ 6 = [ρ 0, ρ 1, ρ 2, ρ 3, ρ 4, ρ 5] := rfl
  rw [hn, hr] at hk ⊢
  simp only [su_small, Summ.inKinds, List.flatMap_cons, List.flatMap_nil, List.replicate, List.cons_append, List.nil_append, List.append_nil, holdsAll, K.holds] at hk
  obtain ⟨b0, b1, b2, b3, b4, b5, _⟩ := hk
  simp only [t_small0, CT.leaves, List.cons_append, List.nil_append, List.mem_cons, List.not_mem_nil, or_false] at hl
  rcases hl with rfl | rfl | rfl | rfl | rfl | rfl | rfl | rfl | rfl | rfl | rfl
  · simp only [satTr_cons, satTr_nil, sv_lss, sv_leq, sv_gtr, sv_geq, sv_eql, sv_neq, sv_not, sv_beq, sv_pick, sv_add, sv_sub, sv_fn, sv_eqs, E.den, List.map, K.holds] at hs
    simp only [asrOK_cons, asrOK_nil, if_true, if_false, Bool.false_eq_true, E.den] at ha
    obtain ⟨⟨h6, k6⟩, _⟩ := hs
    obtain ⟨a0, _⟩ := ha
    refine dec_one (p := val [ρ 0, ρ 1, ρ 2, ρ 3, ρ 4, ρ 5] < q) (z := 1) ?_
    simp only [val, q, List.cons.injEq, and_true]
    omega
  · simp only [satTr_cons, satTr_nil, sv_lss, sv_leq, sv_gtr, sv_geq, sv_eql, sv_neq, sv_not, sv_beq, sv_pick, sv_add, sv_sub, sv_fn, sv_eqs, E.den, List.map, K.holds] at hs
    simp only [asrOK_cons, asrOK_nil, if_true, if_false, Bool.false_eq_true, E.den] at ha
    obtain ⟨⟨h8, k8⟩, ⟨h7, k7⟩, ⟨h6, k6⟩, _⟩ := hs
    obtain ⟨a0, a1, a2, _⟩ := ha
    refine dec_one (p := val [ρ 0, ρ 1, ρ 2, ρ 3, ρ 4, ρ 5] < q) (z := 1) ?_
    simp only [val, q, List.cons.injEq, and_true]
    omega
  · simp only [satTr_cons, satTr_nil, sv_lss, sv_leq, sv_gtr, sv_geq, sv_eql, sv_neq, sv_not, sv_beq, sv_pick, sv_add, sv_sub, sv_fn, sv_eqs, E.den, List.map, K.holds] at hs
    simp only [asrOK_cons, asrOK_nil, if_true, if_false, Bool.false_eq_true, E.den] at ha
    obtain ⟨⟨h10, k10⟩, ⟨h9, k9⟩, ⟨h8, k8⟩, ⟨h7, k7⟩, ⟨h6, k6⟩, _⟩ := hs
    obtain ⟨a0, a1, a2, a3, a4, _⟩ := ha
    refine dec_one (p := val [ρ 0, ρ 1, ρ 2, ρ 3, ρ 4, ρ 5] < q) (z := 1) ?_
    simp only [val, q, List.cons.injEq, and_true]
    omega
  · simp only [satTr_cons, satTr_nil, sv_lss, sv_leq, sv_gtr, sv_geq, sv_eql, sv_neq, sv_not, sv_beq, sv_pick, sv_add, sv_sub, sv_fn, sv_eqs, E.den, List.map, K.holds] at hs
    simp only [asrOK_cons, asrOK_nil, if_true, if_false, Bool.false_eq_true, E.den] at ha
    obtain ⟨⟨h12, k12⟩, ⟨h11, k11⟩, ⟨h10, k10⟩, ⟨h9, k9⟩, ⟨h8, k8⟩, ⟨h7, k7⟩, ⟨h6, k6⟩, _⟩ := hs
    obtain ⟨a0, a1, a2, a3, a4, a5, a6, _⟩ := ha
    refine dec_one (p := val [ρ 0, ρ 1, ρ 2, ρ 3, ρ 4, ρ 5] < q) (z := 1) ?_
    simp only [val, q, List.cons.injEq, and_true]
    omega
  · simp only [satTr_cons, satTr_nil, sv_lss, sv_leq, sv_gtr, sv_geq, sv_eql, sv_neq, sv_not, sv_beq, sv_pick, sv_add, sv_sub, sv_fn, sv_eqs, E.den, List.map, K.holds] at hs
    simp only [asrOK_cons, asrOK_nil, if_true, if_false, Bool.false_eq_true, E.den] at ha
    obtain ⟨⟨h14, k14⟩, ⟨h13, k13⟩, ⟨h12, k12⟩, ⟨h11, k11⟩, ⟨h10, k10⟩, ⟨h9, k9⟩, ⟨h8, k8⟩, ⟨h7, k7⟩, ⟨h6, k6⟩, _⟩ := hs
    obtain ⟨a0, a1, a2, a3, a4, a5, a6, a7, a8, _⟩ := ha
    refine dec_one (p := val [ρ 0, ρ 1, ρ 2, ρ 3, ρ 4, ρ 5] < q) (z := 1) ?_
    simp only [val, q, List.cons.injEq, and_true]
    omega
  · simp only [satTr_cons, satTr_nil, sv_lss, sv_leq, sv_gtr, sv_geq, sv_eql, sv_neq, sv_not, sv_beq, sv_pick, sv_add, sv_sub, sv_fn, sv_eqs, E.den, List.map, K.holds] at hs
    simp only [asrOK_cons, asrOK_nil, if_true, if_false, Bool.false_eq_true, E.den] at ha
    obtain ⟨⟨h16, k16⟩, ⟨h15, k15⟩, ⟨h14, k14⟩, ⟨h13, k13⟩, ⟨h12, k12⟩, ⟨h11, k11⟩, ⟨h10, k10⟩, ⟨h9, k9⟩, ⟨h8, k8⟩, ⟨h7, k7⟩, ⟨h6, k6⟩, _⟩ := hs
    obtain ⟨a0, a1, a2, a3, a4, a5, a6, a7, a8, a9, _⟩ := ha
    refine dec_one (p := val [ρ 0, ρ 1, ρ 2, ρ 3, ρ 4, ρ 5] < q) (z := ρ 16) ?_
    simp only [val, q, List.cons.injEq, and_true]
    omega
  · simp only [satTr_cons, satTr_nil, sv_lss, sv_leq, sv_gtr, sv_geq, sv_eql, sv_neq, sv_not, sv_beq, sv_pick, sv_add, sv_sub, sv_fn, sv_eqs, E.den, List.map, K.holds] at hs
    simp only [asrOK_cons, asrOK_nil, if_true, if_false, Bool.false_eq_true, E.den] at ha
    obtain ⟨⟨h15, k15⟩, ⟨h14, k14⟩, ⟨h13, k13⟩, ⟨h12, k12⟩, ⟨h11, k11⟩, ⟨h10, k10⟩, ⟨h9, k9⟩, ⟨h8, k8⟩, ⟨h7, k7⟩, ⟨h6, k6⟩, _⟩ := hs
    obtain ⟨a0, a1, a2, a3, a4, a5, a6, a7, a8, a9, _⟩ := ha
    refine dec_one (p := val [ρ 0, ρ 1, ρ 2, ρ 3, ρ 4, ρ 5] < q) (z := 0) ?_
    simp only [val, q, List.cons.injEq, and_true]
    omega
  · simp only [satTr_cons, satTr_nil, sv_lss, sv_leq, sv_gtr, sv_geq, sv_eql, sv_neq, sv_not, sv_beq, sv_pick, sv_add, sv_sub, sv_fn, sv_eqs, E.den, List.map, K.holds] at hs
    simp only [asrOK_cons, asrOK_nil, if_true, if_false, Bool.false_eq_true, E.den] at ha
    obtain ⟨⟨h13, k13⟩, ⟨h12, k12⟩, ⟨h11, k11⟩, ⟨h10, k10⟩, ⟨h9, k9⟩, ⟨h8, k8⟩, ⟨h7, k7⟩, ⟨h6, k6⟩, _⟩ := hs
    obtain ⟨a0, a1, a2, a3, a4, a5, a6, a7, _⟩ := ha
    refine dec_one (p := val [ρ 0, ρ 1, ρ 2, ρ 3, ρ 4, ρ 5] < q) (z := 0) ?_
    simp only [val, q, List.cons.injEq, and_true]
    omega
  · simp only [satTr_cons, satTr_nil, sv_lss, sv_leq, sv_gtr, sv_geq, sv_eql, sv_neq, sv_not, sv_beq, sv_pick, sv_add, sv_sub, sv_fn, sv_eqs, E.den, List.map, K.holds] at hs
    simp only [asrOK_cons, asrOK_nil, if_true, if_false, Bool.false_eq_true, E.den] at ha
    obtain ⟨⟨h11, k11⟩, ⟨h10, k10⟩, ⟨h9, k9⟩, ⟨h8, k8⟩, ⟨h7, k7⟩, ⟨h6, k6⟩, _⟩ := hs
    obtain ⟨a0, a1, a2, a3, a4, a5, _⟩ := ha
    refine dec_one (p := val [ρ 0, ρ 1, ρ 2, ρ 3, ρ 4, ρ 5] < q) (z := 0) ?_
    simp only [val, q, List.cons.injEq, and_true]
    omega
  · simp only [satTr_cons, satTr_nil, sv_lss, sv_leq, sv_gtr, sv_geq, sv_eql, sv_neq, sv_not, sv_beq, sv_pick, sv_add, sv_sub, sv_fn, sv_eqs, E.den, List.map, K.holds] at hs
    simp only [asrOK_cons, asrOK_nil, if_true, if_false, Bool.false_eq_true, E.den] at ha
    obtain ⟨⟨h9, k9⟩, ⟨h8, k8⟩, ⟨h7, k7⟩, ⟨h6, k6⟩, _⟩ := hs
    obtain ⟨a0, a1, a2, a3, _⟩ := ha
    refine dec_one (p := val [ρ 0, ρ 1, ρ 2, ρ 3, ρ 4, ρ 5] < q) (z := 0) ?_
    simp only [val, q, List.cons.injEq, and_true]
    omega
  · simp only [satTr_cons, satTr_nil, sv_lss, sv_leq, sv_gtr, sv_geq, sv_eql, sv_neq, sv_not, sv_beq, sv_pick, sv_add, sv_sub, sv_fn, sv_eqs, E.den, List.map, K.holds] at hs
    simp only [asrOK_cons, asrOK_nil, if_true, if_false, Bool.false_eq_true, E.den] at ha
    obtain ⟨⟨h7, k7⟩, ⟨h6, k6⟩, _⟩ := hs
    obtain ⟨a0, a1, _⟩ := ha
    refine dec_one (p := val [ρ 0, ρ 1, ρ 2, ρ 3, ρ 4, ρ 5] < q) (z := 0) ?_
    simp only [val, q, List.cons.injEq, and_true]
    omega

/-! ### add -/
def su_add : Summ := ⟨[.ptr 6, .ptr 6, .ptr 6], (some 0), [.arg 0]⟩
def t_add0 : CT := .leaf ⟨[(49, .i .u64, .pick (.v 31) (.v 42) (.v 28)),
    (48, .i .u64, .pick (.v 31) (.v 40) (.v 26)),
    (47, .i .u64, .pick (.v 31) (.v 38) (.v 24)),
    (46, .i .u64, .pick (.v 31) (.v 36) (.v 22)),
    (45, .i .u64, .pick (.v 31) (.v 34) (.v 20)),
    (44, .i .u64, .pick (.v 31) (.v 32) (.v 18)),
    (43, .bit, .fn 19 [.v 28, .c 1873798617647539866, .v 41] 1),
    (42, .i .u64, .fn 19 [.v 28, .c 1873798617647539866, .v 41] 0),
    (41, .bit, .fn 19 [.v 26, .c 5412103778470702295, .v 39] 1),
    (40, .i .u64, .fn 19 [.v 26, .c 5412103778470702295, .v 39] 0),
    (39, .bit, .fn 19 [.v 24, .c 7239337960414712511, .v 37] 1),
    (38, .i .u64, .fn 19 [.v 24, .c 7239337960414712511, .v 37] 0),
    (37, .bit, .fn 19 [.v 22, .c 7435674573564081700, .v 35] 1),
    (36, .i .u64, .fn 19 [.v 22, .c 7435674573564081700, .v 35] 0),
    (35, .bit, .fn 19 [.v 20, .c 2210141511517208575, .v 33] 1),
    (34, .i .u64, .fn 19 [.v 20, .c 2210141511517208575, .v 33] 0),
    (33, .bit, .fn 19 [.v 18, .c 13402431016077863595, .c 0] 1),
    (32, .i .u64, .fn 19 [.v 18, .c 13402431016077863595, .c 0] 0),
    (31, .bool, .not (.v 30)),
    (30, .bool, .fn 18 [.v 18, .v 20, .v 22, .v 24, .v 26, .v 28] 0),
    (29, .bit, .fn 17 [.v 11, .v 17, .v 27] 1),
    (28, .i .u64, .fn 17 [.v 11, .v 17, .v 27] 0),
    (27, .bit, .fn 17 [.v 10, .v 16, .v 25] 1),
    (26, .i .u64, .fn 17 [.v 10, .v 16, .v 25] 0),
    (25, .bit, .fn 17 [.v 9, .v 15, .v 23] 1),
    (24, .i .u64, .fn 17 [.v 9, .v 15, .v 23] 0),
    (23, .bit, .fn 17 [.v 8, .v 14, .v 21] 1),
    (22, .i .u64, .fn 17 [.v 8, .v 14, .v 21] 0),
    (21, .bit, .fn 17 [.v 7, .v 13, .v 19] 1),
    (20, .i .u64, .fn 17 [.v 7, .v 13, .v 19] 0),
    (19, .bit, .fn 17 [.v 6, .v 12, .c 0] 1),
    (18, .i .u64, .fn 17 [.v 6, .v 12, .c 0] 0)],
    [], [.v 44, .v 45, .v 46, .v 47, .v 48, .v 49]⟩
theorem chk_add : checkFn Try.prog [(17, addSub), (19, addSub), (18, su_small)] su_add 400 Try.f14 (fun _ => t_add0) = true := by kernel_rfl
theorem ok_add : SummOK Try.prog 14 su_add (Phi 14) := by
  refine summ_fn (Φ := Phi) 400 (fun _ => t_add0) Try.func14 (tbl_cons ok_add64 (tbl_cons ok_sub64 (tbl_cons ok_small tbl_nil))) chk_add ?_
  intro al hal l hl ρ hk hs ha
  have hn : su_add.inKinds.length = 18 := rfl
  have hr : row ρ 18 = [ρ 0, ρ 1, ρ 2, ρ 3, ρ 4, ρ 5, ρ 6, ρ 7, ρ 8, ρ 9, ρ 10, ρ 11, ρ 12, ρ 13, ρ 14, ρ 15, ρ 16, ρ 17] := rfl
  rw [hn, hr] at hk ⊢
  simp only [su_add, Summ.inKinds, List.flatMap_cons, List.flatMap_nil, List.replicate, List.cons_append, List.nil_append, List.append_nil, holdsAll, K.holds] at hk
  obtain ⟨b0, b1, b2, b3, b4, b5, b6, b7, b8, b9, b10, b11, b12, b13, b14, b15, b16, b17, _⟩ := hk
  simp only [t_add0, CT.leaves, List.cons_append, List.nil_append, List.mem_cons, List.not_mem_nil, or_false] at hl
  subst hl
  simp only [satTr_cons, satTr_nil, sv_lss, sv_leq, sv_gtr, sv_geq, sv_eql, sv_neq, sv_not, sv_beq, sv_pick, sv_add, sv_sub, sv_fn, sv_eqs, E.den, List.map, K.holds] at hs
  simp only [asrOK_cons, asrOK_nil, if_true, if_false, Bool.false_eq_true, E.den] at ha
  obtain ⟨⟨h49, k49⟩, ⟨h48, k48⟩, ⟨h47, k47⟩, ⟨h46, k46⟩, ⟨h45, k45⟩, ⟨h44, k44⟩, ⟨h43, k43⟩, ⟨h42, k42⟩, ⟨h41, k41⟩, ⟨h40, k40⟩, ⟨h39, k39⟩, ⟨h38, k38⟩, ⟨h37, k37⟩, ⟨h36, k36⟩, ⟨h35, k35⟩, ⟨h34, k34⟩, ⟨h33, k33⟩, ⟨h32, k32⟩, ⟨h31, k31⟩, ⟨h30, k30⟩, ⟨h29, k29⟩, ⟨h28, k28⟩, ⟨h27, k27⟩, ⟨h26, k26⟩, ⟨h25, k25⟩, ⟨h24, k24⟩, ⟨h23, k23⟩, ⟨h22, k22⟩, ⟨h21, k21⟩, ⟨h20, k20⟩, ⟨h19, k19⟩, ⟨h18, k18⟩, _⟩ := hs
  clear ha
  have r18 : ρ 18 + 18446744073709551616 * ρ 19 = ρ 6 + ρ 12 + 0 := adc h18 h19
  have r20 : ρ 20 + 18446744073709551616 * ρ 21 = ρ 7 + ρ 13 + ρ 19 := adc h20 h21
  have r22 : ρ 22 + 18446744073709551616 * ρ 23 = ρ 8 + ρ 14 + ρ 21 := adc h22 h23
  have r24 : ρ 24 + 18446744073709551616 * ρ 25 = ρ 9 + ρ 15 + ρ 23 := adc h24 h25
  have r26 : ρ 26 + 18446744073709551616 * ρ 27 = ρ 10 + ρ 16 + ρ 25 := adc h26 h27
  have r28 : ρ 28 + 18446744073709551616 * ρ 29 = ρ 11 + ρ 17 + ρ 27 := adc h28 h29
  have e30 : ρ 30 = b2i (decide (val [ρ 18, ρ 20, ρ 22, ρ 24, ρ 26, ρ 28] < q)) := h30
  rw [st_dec] at e30
  have r32 : ρ 32 - 18446744073709551616 * ρ 33 = ρ 18 - 13402431016077863595 - 0 := sbb k18 (by decide) (by decide) h32 h33
  have r34 : ρ 34 - 18446744073709551616 * ρ 35 = ρ 20 - 2210141511517208575 - ρ 33 := sbb k20 (by decide) k33 h34 h35
  have r36 : ρ 36 - 18446744073709551616 * ρ 37 = ρ 22 - 7435674573564081700 - ρ 35 := sbb k22 (by decide) k35 h36 h37
  have r38 : ρ 38 - 18446744073709551616 * ρ 39 = ρ 24 - 7239337960414712511 - ρ 37 := sbb k24 (by decide) k37 h38 h39
  have r40 : ρ 40 - 18446744073709551616 * ρ 41 = ρ 26 - 5412103778470702295 - ρ 39 := sbb k26 (by decide) k39 h40 h41
  have r42 : ρ 42 - 18446744073709551616 * ρ 43 = ρ 28 - 1873798617647539866 - ρ 41 := sbb k28 (by decide) k41 h42 h43
  change wds 6 (eAdd 6 q (val [ρ 6, ρ 7, ρ 8, ρ 9, ρ 10, ρ 11]) (val [ρ 12, ρ 13, ρ 14, ρ 15, ρ 16, ρ 17])) = [ρ 44, ρ 45, ρ 46, ρ 47, ρ 48, ρ 49]
  refine add_done (S := [ρ 18, ρ 20, ρ 22, ρ 24, ρ 26, ρ 28]) (D := [ρ 32, ρ 34, ρ 36, ρ 38, ρ 40, ρ 42]) (c := ρ 29) (d := ρ 43) (u64s_cons k18 (u64s_cons k20 (u64s_cons k22 (u64s_cons k24 (u64s_cons k26 (u64s_cons k28 u64s_nil)))))) rfl (u64s_cons k32 (u64s_cons k34 (u64s_cons k36 (u64s_cons k38 (u64s_cons k40 (u64s_cons k42 u64s_nil)))))) rfl ?_ h30 h31 ?_ ?_
  · simp only [val, big]; clear e30; omega
  · simp only [val, big, q]; clear e30; omega
  · by_cases hz : ρ 31 = 0
    · left; refine ⟨hz, ?_⟩; simp only [hz, true_and, ne_eq, not_true_eq_false, false_and, or_false] at h44 h45 h46 h47 h48 h49; rw [h44, h45, h46, h47, h48, h49]
    · right; refine ⟨hz, ?_⟩; simp only [hz, false_and, ne_eq, not_false_eq_true, true_and, false_or] at h44 h45 h46 h47 h48 h49; rw [h44, h45, h46, h47, h48, h49]

/-! ### iAdd -/
def su_iAdd : Summ := ⟨[.agg 6, .agg 6], none, [.agg 6]⟩
def t_iAdd0 : CT := .leaf ⟨[(17, .i .u64, .fn 14 [.c 0, .c 0, .c 0, .c 0, .c 0, .c 0, .v 0, .v 1, .v 2, .v 3, .v 4, .v 5, .v 6, .v 7, .v 8, .v 9, .v 10, .v 11] 5),
    (16, .i .u64, .fn 14 [.c 0, .c 0, .c 0, .c 0, .c 0, .c 0, .v 0, .v 1, .v 2, .v 3, .v 4, .v 5, .v 6, .v 7, .v 8, .v 9, .v 10, .v 11] 4),
    (15, .i .u64, .fn 14 [.c 0, .c 0, .c 0, .c 0, .c 0, .c 0, .v 0, .v 1, .v 2, .v 3, .v 4, .v 5, .v 6, .v 7, .v 8, .v 9, .v 10, .v 11] 3),
    (14, .i .u64, .fn 14 [.c 0, .c 0, .c 0, .c 0, .c 0, .c 0, .v 0, .v 1, .v 2, .v 3, .v 4, .v 5, .v 6, .v 7, .v 8, .v 9, .v 10, .v 11] 2),
    (13, .i .u64, .fn 14 [.c 0, .c 0, .c 0, .c 0, .c 0, .c 0, .v 0, .v 1, .v 2, .v 3, .v 4, .v 5, .v 6, .v 7, .v 8, .v 9, .v 10, .v 11] 1),
    (12, .i .u64, .fn 14 [.c 0, .c 0, .c 0, .c 0, .c 0, .c 0, .v 0, .v 1, .v 2, .v 3, .v 4, .v 5, .v 6, .v 7, .v 8, .v 9, .v 10, .v 11] 0)],
    [], [.v 12, .v 13, .v 14, .v 15, .v 16, .v 17]⟩
theorem chk_iAdd : checkFn Try.prog [(14, su_add)] su_iAdd 400 Try.f7 (fun _ => t_iAdd0) = true := by kernel_rfl
theorem ok_iAdd : SummOK Try.prog 7 su_iAdd (Phi 7) := by
  refine summ_fn (Φ := Phi) 400 (fun _ => t_iAdd0) Try.func7 (tbl_cons ok_add tbl_nil) chk_iAdd ?_
  intro al hal l hl ρ hk hs ha
  have hn : su_iAdd.inKinds.length = 12 := rfl
  have hr : row ρ 12 = [ρ 0, ρ 1, ρ 2, ρ 3, ρ 4, ρ 5, ρ 6, ρ 7, ρ 8, ρ 9, ρ 10, ρ 11] := rfl
  rw [hn, hr] at hk ⊢
  simp only [su_iAdd, Summ.inKinds, List.flatMap_cons, List.flatMap_nil, List.replicate, List.cons_append, List.nil_append, List.append_nil, holdsAll, K.holds] at hk
  obtain ⟨b0, b1, b2, b3, b4, b5, b6, b7, b8, b9, b10, b11, _⟩ := hk
  simp only [t_iAdd0, CT.leaves, List.cons_append, List.nil_append, List.mem_cons, List.not_mem_nil, or_false] at hl
  subst hl
  simp only [satTr_cons, satTr_nil, sv_lss, sv_leq, sv_gtr, sv_geq, sv_eql, sv_neq, sv_not, sv_beq, sv_pick, sv_add, sv_sub, sv_fn, sv_eqs, E.den, List.map, K.holds] at hs
  simp only [asrOK_cons, asrOK_nil, if_true, if_false, Bool.false_eq_true, E.den] at ha
  obtain ⟨⟨h17, k17⟩, ⟨h16, k16⟩, ⟨h15, k15⟩, ⟨h14, k14⟩, ⟨h13, k13⟩, ⟨h12, k12⟩, _⟩ := hs
  clear ha
  have g12 : [ρ 12, ρ 13, ρ 14, ρ 15, ρ 16, ρ 17] = wds 6 (eAdd 6 q (val [ρ 0, ρ 1, ρ 2, ρ 3, ρ 4, ρ 5]) (val [ρ 6, ρ 7, ρ 8, ρ 9, ρ 10, ρ 11])) := get6 rfl h12 h13 h14 h15 h16 h17
  exact g12.symm

/-! ### one -/
def su_one : Summ := ⟨[.ptr 6], (some 0), [.arg 0]⟩
def t_one0 : CT := .leaf ⟨[],
    [], [.c 8505329371266088957, .c 17002214543764226050, .c 6865905132761471162, .c 8632934651105793861, .c 6631298214892334189, .c 1582556514881692819]⟩
theorem chk_one : checkFn Try.prog [] su_one 400 Try.f16 (fun _ => t_one0) = true := by kernel_rfl
theorem ok_one : SummOK Try.prog 16 su_one (Phi 16) := by
  refine summ_fn (Φ := Phi) 400 (fun _ => t_one0) Try.func16 tbl_nil chk_one ?_
  intro al hal l hl ρ hk hs ha
  have hn : su_one.inKinds.length = 6 := rfl
  have hr : row ρ 6 = [ρ 0, ρ 1, ρ 2, ρ 3, ρ 4, ρ 5] := rfl
  rw [hn, hr] at hk ⊢
  simp only [su_one, Summ.inKinds, List.flatMap_cons, List.flatMap_nil, List.replicate, List.cons_append, List.nil_append, List.append_nil, holdsAll, K.holds] at hk
  obtain ⟨b0, b1, b2, b3, b4, b5, _⟩ := hk
  simp only [t_one0, CT.leaves, List.cons_append, List.nil_append, List.mem_cons, List.not_mem_nil, or_false] at hl
  subst hl
  simp only [satTr_cons, satTr_nil, sv_lss, sv_leq, sv_gtr, sv_geq, sv_eql, sv_neq, sv_not, sv_beq, sv_pick, sv_add, sv_sub, sv_fn, sv_eqs, E.den, List.map, K.holds] at hs
  simp only [asrOK_cons, asrOK_nil, if_true, if_false, Bool.false_eq_true, E.den] at ha
  clear hs
  clear ha
  change wds 6 r = [8505329371266088957, 17002214543764226050, 6865905132761471162, 8632934651105793861, 6631298214892334189, 1582556514881692819]
  kernel_rfl

/-! ### One -/
def su_One : Summ := ⟨[], none, [.agg 6]⟩
def t_One0 : CT := .leaf ⟨[(5, .i .u64, .fn 16 [.c 0, .c 0, .c 0, .c 0, .c 0, .c 0] 5),
    (4, .i .u64, .fn 16 [.c 0, .c 0, .c 0, .c 0, .c 0, .c 0] 4),
    (3, .i .u64, .fn 16 [.c 0, .c 0, .c 0, .c 0, .c 0, .c 0] 3),
    (2, .i .u64, .fn 16 [.c 0, .c 0, .c 0, .c 0, .c 0, .c 0] 2),
    (1, .i .u64, .fn 16 [.c 0, .c 0, .c 0, .c 0, .c 0, .c 0] 1),
    (0, .i .u64, .fn 16 [.c 0, .c 0, .c 0, .c 0, .c 0, .c 0] 0)],
    [], [.v 0, .v 1, .v 2, .v 3, .v 4, .v 5]⟩
theorem chk_One : checkFn Try.prog [(16, su_one)] su_One 400 Try.f13 (fun _ => t_One0) = true := by kernel_rfl
theorem ok_One : SummOK Try.prog 13 su_One (Phi 13) := by
  refine summ_fn (Φ := Phi) 400 (fun _ => t_One0) Try.func13 (tbl_cons ok_one tbl_nil) chk_One ?_
  intro al hal l hl ρ hk hs ha
  have hn : su_One.inKinds.length = 0 := rfl
  have hr : row ρ 0 = [] := rfl
  rw [hn, hr] at hk ⊢
  simp only [su_One, Summ.inKinds, List.flatMap_cons, List.flatMap_nil, List.replicate, List.cons_append, List.nil_append, List.append_nil, holdsAll, K.holds] at hk
  simp only [t_One0, CT.leaves, List.cons_append, List.nil_append, List.mem_cons, List.not_mem_nil, or_false] at hl
  subst hl
  simp only [satTr_cons, satTr_nil, sv_lss, sv_leq, sv_gtr, sv_geq, sv_eql, sv_neq, sv_not, sv_beq, sv_pick, sv_add, sv_sub, sv_fn, sv_eqs, E.den, List.map, K.holds] at hs
  simp only [asrOK_cons, asrOK_nil, if_true, if_false, Bool.false_eq_true, E.den] at ha
  obtain ⟨⟨h5, k5⟩, ⟨h4, k4⟩, ⟨h3, k3⟩, ⟨h2, k2⟩, ⟨h1, k1⟩, ⟨h0, k0⟩, _⟩ := hs
  clear ha
  have g0 : [ρ 0, ρ 1, ρ 2, ρ 3, ρ 4, ρ 5] = wds 6 r := get6 rfl h0 h1 h2 h3 h4 h5
  exact g0.symm

/-! ### iOne -/
def su_iOne : Summ := ⟨[], none, [.agg 6]⟩
def t_iOne0 : CT := .leaf ⟨[(5, .i .u64, .fn 13 [] 5),
    (4, .i .u64, .fn 13 [] 4),
    (3, .i .u64, .fn 13 [] 3),
    (2, .i .u64, .fn 13 [] 2),
    (1, .i .u64, .fn 13 [] 1),
    (0, .i .u64, .fn 13 [] 0)],
    [], [.v 0, .v 1, .v 2, .v 3, .v 4, .v 5]⟩
theorem chk_iOne : checkFn Try.prog [(13, su_One)] su_iOne 400 Try.f6 (fun _ => t_iOne0) = true := by kernel_rfl
theorem ok_iOne : SummOK Try.prog 6 su_iOne (Phi 6) := by
  refine summ_fn (Φ := Phi) 400 (fun _ => t_iOne0) Try.func6 (tbl_cons ok_One tbl_nil) chk_iOne ?_
  intro al hal l hl ρ hk hs ha
  have hn : su_iOne.inKinds.length = 0 := rfl
  have hr : row ρ 0 = [] := rfl
  rw [hn, hr] at hk ⊢
  simp only [su_iOne, Summ.inKinds, List.flatMap_cons, List.flatMap_nil, List.replicate, List.cons_append, List.nil_append, List.append_nil, holdsAll, K.holds] at hk
  simp only [t_iOne0, CT.leaves, List.cons_append, List.nil_append, List.mem_cons, List.not_mem_nil, or_false] at hl
  subst hl
  simp only [satTr_cons, satTr_nil, sv_lss, sv_leq, sv_gtr, sv_geq, sv_eql, sv_neq, sv_not, sv_beq, sv_pick, sv_add, sv_sub, sv_fn, sv_eqs, E.den, List.map, K.holds] at hs
  simp only [asrOK_cons, asrOK_nil, if_true, if_false, Bool.false_eq_true, E.den] at ha
  obtain ⟨⟨h5, k5⟩, ⟨h4, k4⟩, ⟨h3, k3⟩, ⟨h2, k2⟩, ⟨h1, k1⟩, ⟨h0, k0⟩, _⟩ := hs
  clear ha
  have g0 : [ρ 0, ρ 1, ρ 2, ρ 3, ρ 4, ρ 5] = wds 6 r := get6 rfl h0 h1 h2 h3 h4 h5
  exact g0.symm

end Go.Proofs.Ytonabpmbcojbeaa
