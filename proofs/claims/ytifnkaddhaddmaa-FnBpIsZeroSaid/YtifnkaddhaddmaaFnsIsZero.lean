/- The functions of the seat Ytifnkaddhaddmaa, each once: its ways through the text, and what it comes to in numbers. Written by a program (gen.py). -/
import Derived.Test.YtifnkaddhaddmaaSymU
import Derived.Test.YtifnkaddhaddmaaSymZ
import Derived.Test.YtifnkaddhaddmaaRows
set_option linter.unusedVariables false
set_option linter.unusedSimpArgs false
set_option maxRecDepth 4000
namespace Go.Proofs.Ytifnkaddhaddmaa
open Go.Sym

def q : Int := 4002409555221667393417789825735904156556882819939007885332058136124031650490837864442687629129015664037894272559787
def r : Int := 3380320199399472671518931668520476396067793891014375699959770179129436917079669831430077592723774664465579537268733

def Phi : Nat → List Int → List Int
  | 9 => lessF 6
  | 13 => sameF 6
  | 10 => primeF 6 q
  | 30 => plusF 6
  | 29 => lessenF 6
  | 27 => addWF 6
  | 17 => subWF 6
  | 15 => setF 6 1
  | 21 => timesF 6
  | 38 => setF 6 0
  | 44 => setF 6 r
  | 25 => zeroF
  | 26 => isF 6 r
  | 41 => smallF q
  | 31 => eaddF 6 q
  | 32 => esubF 6 q
  | 42 => edblF 6 q
  | 28 => enegF 6 q
  | 37 => setF 6 r
  | 33 => mul5F 6 q
  | 24 => setF 6 r
  | 11 => zeroF
  | 12 => isF 6 r
  | 18 => aaddF 6 q
  | 19 => asubF 6 q
  | 16 => anegF 6 q
  | 20 => mul5F 6 q
  | 4 => fun _ => [1]
  | 5 => fun _ => [1]
  | 6 => fun _ => [1]
  | 8 => fun _ => [1]
  | 3 => fun _ => [1]
  | 40 => add64F
  | 39 => sub64F
  | 14 => shiftF 6
  | _ => fun _ => []

theorem ok_add64 : SummOK Try.prog 40 addSub (Phi 40) := summ_add64 Try.func40 (by kernel_rfl) (by kernel_rfl) (by kernel_rfl) (by kernel_rfl)

theorem ok_sub64 : SummOK Try.prog 39 addSub (Phi 39) := summ_sub64 Try.func39 (by kernel_rfl) (by kernel_rfl) (by kernel_rfl) (by kernel_rfl)

/-! ### less -/
def su_less : Summ := ⟨[.slc 6, .slc 6], none, [.sc .bool]⟩
def t_less0 : CT := .node (.v 12)
  (.leaf ⟨[(13, .bool, .cmp .lss (.v 5) (.v 11)),
    (12, .bool, .cmp .neq (.v 5) (.v 11))],
    [(.v 12, true)], [.v 13]⟩)
  (.node (.v 13)
  (.leaf ⟨[(14, .bool, .cmp .lss (.v 4) (.v 10)),
    (13, .bool, .cmp .neq (.v 4) (.v 10)),
    (12, .bool, .cmp .neq (.v 5) (.v 11))],
    [(.v 13, true), (.v 12, false)], [.v 14]⟩)
  (.node (.v 14)
  (.leaf ⟨[(15, .bool, .cmp .lss (.v 3) (.v 9)),
    (14, .bool, .cmp .neq (.v 3) (.v 9)),
    (13, .bool, .cmp .neq (.v 4) (.v 10)),
    (12, .bool, .cmp .neq (.v 5) (.v 11))],
    [(.v 14, true), (.v 13, false), (.v 12, false)], [.v 15]⟩)
  (.node (.v 15)
  (.leaf ⟨[(16, .bool, .cmp .lss (.v 2) (.v 8)),
    (15, .bool, .cmp .neq (.v 2) (.v 8)),
    (14, .bool, .cmp .neq (.v 3) (.v 9)),
    (13, .bool, .cmp .neq (.v 4) (.v 10)),
    (12, .bool, .cmp .neq (.v 5) (.v 11))],
    [(.v 15, true), (.v 14, false), (.v 13, false), (.v 12, false)], [.v 16]⟩)
  (.node (.v 16)
  (.leaf ⟨[(17, .bool, .cmp .lss (.v 1) (.v 7)),
    (16, .bool, .cmp .neq (.v 1) (.v 7)),
    (15, .bool, .cmp .neq (.v 2) (.v 8)),
    (14, .bool, .cmp .neq (.v 3) (.v 9)),
    (13, .bool, .cmp .neq (.v 4) (.v 10)),
    (12, .bool, .cmp .neq (.v 5) (.v 11))],
    [(.v 16, true), (.v 15, false), (.v 14, false), (.v 13, false), (.v 12, false)], [.v 17]⟩)
  (.node (.v 17)
  (.leaf ⟨[(18, .bool, .cmp .lss (.v 0) (.v 6)),
    (17, .bool, .cmp .neq (.v 0) (.v 6)),
    (16, .bool, .cmp .neq (.v 1) (.v 7)),
    (15, .bool, .cmp .neq (.v 2) (.v 8)),
    (14, .bool, .cmp .neq (.v 3) (.v 9)),
    (13, .bool, .cmp .neq (.v 4) (.v 10)),
    (12, .bool, .cmp .neq (.v 5) (.v 11))],
    [(.v 17, true), (.v 16, false), (.v 15, false), (.v 14, false), (.v 13, false), (.v 12, false)], [.v 18]⟩)
  (.leaf ⟨[(17, .bool, .cmp .neq (.v 0) (.v 6)),
    (16, .bool, .cmp .neq (.v 1) (.v 7)),
    (15, .bool, .cmp .neq (.v 2) (.v 8)),
    (14, .bool, .cmp .neq (.v 3) (.v 9)),
    (13, .bool, .cmp .neq (.v 4) (.v 10)),
    (12, .bool, .cmp .neq (.v 5) (.v 11))],
    [(.v 17, false), (.v 16, false), (.v 15, false), (.v 14, false), (.v 13, false), (.v 12, false)], [.c 0]⟩))))))
theorem chk_less : checkFn Try.prog [] su_less 400 Try.f9 (fun _ => t_less0) = true := by kernel_rfl
theorem ok_less : SummOK Try.prog 9 su_less (Phi 9) := by
  refine summ_fn (Φ := Phi) 400 (fun _ => t_less0) Try.func9 tbl_nil chk_less ?_
  intro al hal l hl ρ hk hs ha
  have hn : su_less.inKinds.length = 12 := rfl
  have hr : row ρ 12 = [ρ 0, ρ 1, ρ 2, ρ 3, ρ 4, ρ 5, ρ 6, ρ 7, ρ 8, ρ 9, ρ 10, ρ 11] := rfl
  rw [hn, hr] at hk ⊢
  simp only [su_less, Summ.inKinds, List.flatMap_cons, List.flatMap_nil, List.replicate, List.cons_append, List.nil_append, List.append_nil, holdsAll, K.holds] at hk
  obtain ⟨b0, b1, b2, b3, b4, b5, b6, b7, b8, b9, b10, b11, _⟩ := hk
  simp only [t_less0, CT.leaves, List.cons_append, List.nil_append, List.mem_cons, List.not_mem_nil, or_false] at hl
  rcases hl with rfl | rfl | rfl | rfl | rfl | rfl | rfl
  · simp only [satTr_cons, satTr_nil, sv_lss, sv_leq, sv_gtr, sv_geq, sv_eql, sv_neq, sv_not, sv_beq, sv_pick, sv_add, sv_sub, sv_fn, sv_eqs, E.den, List.map, K.holds] at hs
    simp only [asrOK_cons, asrOK_nil, if_true, if_false, Bool.false_eq_true, E.den] at ha
    obtain ⟨⟨h13, k13⟩, ⟨h12, k12⟩, _⟩ := hs
    obtain ⟨a0, _⟩ := ha
    refine dec_one (p := val [ρ 0, ρ 1, ρ 2, ρ 3, ρ 4, ρ 5] < val [ρ 6, ρ 7, ρ 8, ρ 9, ρ 10, ρ 11]) (z := ρ 13) ?_
    simp only [val, q, List.cons.injEq, and_true]
    omega
  · simp only [satTr_cons, satTr_nil, sv_lss, sv_leq, sv_gtr, sv_geq, sv_eql, sv_neq, sv_not, sv_beq, sv_pick, sv_add, sv_sub, sv_fn, sv_eqs, E.den, List.map, K.holds] at hs
    simp only [asrOK_cons, asrOK_nil, if_true, if_false, Bool.false_eq_true, E.den] at ha
    obtain ⟨⟨h14, k14⟩, ⟨h13, k13⟩, ⟨h12, k12⟩, _⟩ := hs
    obtain ⟨a0, a1, _⟩ := ha
    refine dec_one (p := val [ρ 0, ρ 1, ρ 2, ρ 3, ρ 4, ρ 5] < val [ρ 6, ρ 7, ρ 8, ρ 9, ρ 10, ρ 11]) (z := ρ 14) ?_
    simp only [val, q, List.cons.injEq, and_true]
    omega
  · simp only [satTr_cons, satTr_nil, sv_lss, sv_leq, sv_gtr, sv_geq, sv_eql, sv_neq, sv_not, sv_beq, sv_pick, sv_add, sv_sub, sv_fn, sv_eqs, E.den, List.map, K.holds] at hs
    simp only [asrOK_cons, asrOK_nil, if_true, if_false, Bool.false_eq_true, E.den] at ha
    obtain ⟨⟨h15, k15⟩, ⟨h14, k14⟩, ⟨h13, k13⟩, ⟨h12, k12⟩, _⟩ := hs
    obtain ⟨a0, a1, a2, _⟩ := ha
    refine dec_one (p := val [ρ 0, ρ 1, ρ 2, ρ 3, ρ 4, ρ 5] < val [ρ 6, ρ 7, ρ 8, ρ 9, ρ 10, ρ 11]) (z := ρ 15) ?_
    simp only [val, q, List.cons.injEq, and_true]
    omega
  · simp only [satTr_cons, satTr_nil, sv_lss, sv_leq, sv_gtr, sv_geq, sv_eql, sv_neq, sv_not, sv_beq, sv_pick, sv_add, sv_sub, sv_fn, sv_eqs, E.den, List.map, K.holds] at hs
    simp only [asrOK_cons, asrOK_nil, if_true, if_false, Bool.false_eq_true, E.den] at ha
    obtain ⟨⟨h16, k16⟩, ⟨h15, k15⟩, ⟨h14, k14⟩, ⟨h13, k13⟩, ⟨h12, k12⟩, _⟩ := hs
    obtain ⟨a0, a1, a2, a3, _⟩ := ha
    refine dec_one (p := val [ρ 0, ρ 1, ρ 2, ρ 3, ρ 4, ρ 5] < val [ρ 6, ρ 7, ρ 8, ρ 9, ρ 10, ρ 11]) (z := ρ 16) ?_
    simp only [val, q, List.cons.injEq, and_true]
    omega
  · simp only [satTr_cons, satTr_nil, sv_lss, sv_leq, sv_gtr, sv_geq, sv_eql, sv_neq, sv_not, sv_beq, sv_pick, sv_add, sv_sub, sv_fn, sv_eqs, E.den, List.map, K.holds] at hs
    simp only [asrOK_cons, asrOK_nil, if_true, if_false, Bool.false_eq_true, E.den] at ha
    obtain ⟨⟨h17, k17⟩, ⟨h16, k16⟩, ⟨h15, k15⟩, ⟨h14, k14⟩, ⟨h13, k13⟩, ⟨h12, k12⟩, _⟩ := hs
    obtain ⟨a0, a1, a2, a3, a4, _⟩ := ha
    refine dec_one (p := val [ρ 0, ρ 1, ρ 2, ρ 3, ρ 4, ρ 5] < val [ρ 6, ρ 7, ρ 8, ρ 9, ρ 10, ρ 11]) (z := ρ 17) ?_
    simp only [val, q, List.cons.injEq, and_true]
    omega
  · simp only [satTr_cons, satTr_nil, sv_lss, sv_leq, sv_gtr, sv_geq, sv_eql, sv_neq, sv_not, sv_beq, sv_pick, sv_add, sv_sub, sv_fn, sv_eqs, E.den, List.map, K.holds] at hs
    simp only [asrOK_cons, asrOK_nil, if_true, if_false, Bool.false_eq_true, E.den] at ha
    obtain ⟨⟨h18, k18⟩, ⟨h17, k17⟩, ⟨h16, k16⟩, ⟨h15, k15⟩, ⟨h14, k14⟩, ⟨h13, k13⟩, ⟨h12, k12⟩, _⟩ := hs
    obtain ⟨a0, a1, a2, a3, a4, a5, _⟩ := ha
    refine dec_one (p := val [ρ 0, ρ 1, ρ 2, ρ 3, ρ 4, ρ 5] < val [ρ 6, ρ 7, ρ 8, ρ 9, ρ 10, ρ 11]) (z := ρ 18) ?_
    simp only [val, q, List.cons.injEq, and_true]
    omega
  · simp only [satTr_cons, satTr_nil, sv_lss, sv_leq, sv_gtr, sv_geq, sv_eql, sv_neq, sv_not, sv_beq, sv_pick, sv_add, sv_sub, sv_fn, sv_eqs, E.den, List.map, K.holds] at hs
    simp only [asrOK_cons, asrOK_nil, if_true, if_false, Bool.false_eq_true, E.den] at ha
    obtain ⟨⟨h17, k17⟩, ⟨h16, k16⟩, ⟨h15, k15⟩, ⟨h14, k14⟩, ⟨h13, k13⟩, ⟨h12, k12⟩, _⟩ := hs
    obtain ⟨a0, a1, a2, a3, a4, a5, _⟩ := ha
    refine dec_one (p := val [ρ 0, ρ 1, ρ 2, ρ 3, ρ 4, ρ 5] < val [ρ 6, ρ 7, ρ 8, ρ 9, ρ 10, ρ 11]) (z := 0) ?_
    simp only [val, q, List.cons.injEq, and_true]
    omega

/-! ### same -/
def su_same : Summ := ⟨[.slc 6, .slc 6], none, [.sc .bool]⟩
def t_same0 : CT := .node (.v 12)
  (.leaf ⟨[(12, .bool, .cmp .neq (.v 0) (.v 6))],
    [(.v 12, true)], [.c 0]⟩)
  (.node (.v 13)
  (.leaf ⟨[(13, .bool, .cmp .neq (.v 1) (.v 7)),
    (12, .bool, .cmp .neq (.v 0) (.v 6))],
    [(.v 13, true), (.v 12, false)], [.c 0]⟩)
  (.node (.v 14)
  (.leaf ⟨[(14, .bool, .cmp .neq (.v 2) (.v 8)),
    (13, .bool, .cmp .neq (.v 1) (.v 7)),
    (12, .bool, .cmp .neq (.v 0) (.v 6))],
    [(.v 14, true), (.v 13, false), (.v 12, false)], [.c 0]⟩)
  (.node (.v 15)
  (.leaf ⟨[(15, .bool, .cmp .neq (.v 3) (.v 9)),
    (14, .bool, .cmp .neq (.v 2) (.v 8)),
    (13, .bool, .cmp .neq (.v 1) (.v 7)),
    (12, .bool, .cmp .neq (.v 0) (.v 6))],
    [(.v 15, true), (.v 14, false), (.v 13, false), (.v 12, false)], [.c 0]⟩)
  (.node (.v 16)
  (.leaf ⟨[(16, .bool, .cmp .neq (.v 4) (.v 10)),
    (15, .bool, .cmp .neq (.v 3) (.v 9)),
    (14, .bool, .cmp .neq (.v 2) (.v 8)),
    (13, .bool, .cmp .neq (.v 1) (.v 7)),
    (12, .bool, .cmp .neq (.v 0) (.v 6))],
    [(.v 16, true), (.v 15, false), (.v 14, false), (.v 13, false), (.v 12, false)], [.c 0]⟩)
  (.node (.v 17)
  (.leaf ⟨[(17, .bool, .cmp .neq (.v 5) (.v 11)),
    (16, .bool, .cmp .neq (.v 4) (.v 10)),
    (15, .bool, .cmp .neq (.v 3) (.v 9)),
    (14, .bool, .cmp .neq (.v 2) (.v 8)),
    (13, .bool, .cmp .neq (.v 1) (.v 7)),
    (12, .bool, .cmp .neq (.v 0) (.v 6))],
    [(.v 17, true), (.v 16, false), (.v 15, false), (.v 14, false), (.v 13, false), (.v 12, false)], [.c 0]⟩)
  (.leaf ⟨[(17, .bool, .cmp .neq (.v 5) (.v 11)),
    (16, .bool, .cmp .neq (.v 4) (.v 10)),
    (15, .bool, .cmp .neq (.v 3) (.v 9)),
    (14, .bool, .cmp .neq (.v 2) (.v 8)),
    (13, .bool, .cmp .neq (.v 1) (.v 7)),
    (12, .bool, .cmp .neq (.v 0) (.v 6))],
    [(.v 17, false), (.v 16, false), (.v 15, false), (.v 14, false), (.v 13, false), (.v 12, false)], [.c 1]⟩))))))
theorem chk_same : checkFn Try.prog [] su_same 400 Try.f13 (fun _ => t_same0) = true := by kernel_rfl
theorem ok_same : SummOK Try.prog 13 su_same (Phi 13) := by
  refine summ_fn (Φ := Phi) 400 (fun _ => t_same0) Try.func13 tbl_nil chk_same ?_
  intro al hal l hl ρ hk hs ha
  have hn : su_same.inKinds.length = 12 := rfl
  have hr : row ρ 12 = [ρ 0, ρ 1, ρ 2, ρ 3, ρ 4, ρ 5, ρ 6, ρ 7, ρ 8, ρ 9, ρ 10, ρ 11] := rfl
  rw [hn, hr] at hk ⊢
  simp only [su_same, Summ.inKinds, List.flatMap_cons, List.flatMap_nil, List.replicate, List.cons_append, List.nil_append, List.append_nil, holdsAll, K.holds] at hk
  obtain ⟨b0, b1, b2, b3, b4, b5, b6, b7, b8, b9, b10, b11, _⟩ := hk
  simp only [t_same0, CT.leaves, List.cons_append, List.nil_append, List.mem_cons, List.not_mem_nil, or_false] at hl
  rcases hl with rfl | rfl | rfl | rfl | rfl | rfl | rfl
  · simp only [satTr_cons, satTr_nil, sv_lss, sv_leq, sv_gtr, sv_geq, sv_eql, sv_neq, sv_not, sv_beq, sv_pick, sv_add, sv_sub, sv_fn, sv_eqs, E.den, List.map, K.holds] at hs
    simp only [asrOK_cons, asrOK_nil, if_true, if_false, Bool.false_eq_true, E.den] at ha
    obtain ⟨⟨h12, k12⟩, _⟩ := hs
    obtain ⟨a0, _⟩ := ha
    refine dec_one (p := [ρ 0, ρ 1, ρ 2, ρ 3, ρ 4, ρ 5] = [ρ 6, ρ 7, ρ 8, ρ 9, ρ 10, ρ 11]) (z := 0) ?_
    simp only [val, q, List.cons.injEq, and_true]
    omega
  · simp only [satTr_cons, satTr_nil, sv_lss, sv_leq, sv_gtr, sv_geq, sv_eql, sv_neq, sv_not, sv_beq, sv_pick, sv_add, sv_sub, sv_fn, sv_eqs, E.den, List.map, K.holds] at hs
    simp only [asrOK_cons, asrOK_nil, if_true, if_false, Bool.false_eq_true, E.den] at ha
    obtain ⟨⟨h13, k13⟩, ⟨h12, k12⟩, _⟩ := hs
    obtain ⟨a0, a1, _⟩ := ha
    refine dec_one (p := [ρ 0, ρ 1, ρ 2, ρ 3, ρ 4, ρ 5] = [ρ 6, ρ 7, ρ 8, ρ 9, ρ 10, ρ 11]) (z := 0) ?_
    simp only [val, q, List.cons.injEq, and_true]
    omega
  · simp only [satTr_cons, satTr_nil, sv_lss, sv_leq, sv_gtr, sv_geq, sv_eql, sv_neq, sv_not, sv_beq, sv_pick, sv_add, sv_sub, sv_fn, sv_eqs, E.den, List.map, K.holds] at hs
    simp only [asrOK_cons, asrOK_nil, if_true, if_false, Bool.false_eq_true, E.den] at ha
    obtain ⟨⟨h14, k14⟩, ⟨h13, k13⟩, ⟨h12, k12⟩, _⟩ := hs
    obtain ⟨a0, a1, a2, _⟩ := ha
    refine dec_one (p := [ρ 0, ρ 1, ρ 2, ρ 3, ρ 4, ρ 5] = [ρ 6, ρ 7, ρ 8, ρ 9, ρ 10, ρ 11]) (z := 0) ?_
    simp only [val, q, List.cons.injEq, and_true]
    omega
  · simp only [satTr_cons, satTr_nil, sv_lss, sv_leq, sv_gtr, sv_geq, sv_eql, sv_neq, sv_not, sv_beq, sv_pick, sv_add, sv_sub, sv_fn, sv_eqs, E.den, List.map, K.holds] at hs
    simp only [asrOK_cons, asrOK_nil, if_true, if_false, Bool.false_eq_true, E.den] at ha
    obtain ⟨⟨h15, k15⟩, ⟨h14, k14⟩, ⟨h13, k13⟩, ⟨h12, k12⟩, _⟩ := hs
    obtain ⟨a0, a1, a2, a3, _⟩ := ha
    refine dec_one (p := [ρ 0, ρ 1, ρ 2, ρ 3, ρ 4, ρ 5] = [ρ 6, ρ 7, ρ 8, ρ 9, ρ 10, ρ 11]) (z := 0) ?_
    simp only [val, q, List.cons.injEq, and_true]
    omega
  · simp only [satTr_cons, satTr_nil, sv_lss, sv_leq, sv_gtr, sv_geq, sv_eql, sv_neq, sv_not, sv_beq, sv_pick, sv_add, sv_sub, sv_fn, sv_eqs, E.den, List.map, K.holds] at hs
    simp only [asrOK_cons, asrOK_nil, if_true, if_false, Bool.false_eq_true, E.den] at ha
    obtain ⟨⟨h16, k16⟩, ⟨h15, k15⟩, ⟨h14, k14⟩, ⟨h13, k13⟩, ⟨h12, k12⟩, _⟩ := hs
    obtain ⟨a0, a1, a2, a3, a4, _⟩ := ha
    refine dec_one (p := [ρ 0, ρ 1, ρ 2, ρ 3, ρ 4, ρ 5] = [ρ 6, ρ 7, ρ 8, ρ 9, ρ 10, ρ 11]) (z := 0) ?_
    simp only [val, q, List.cons.injEq, and_true]
    omega
  · simp only [satTr_cons, satTr_nil, sv_lss, sv_leq, sv_gtr, sv_geq, sv_eql, sv_neq, sv_not, sv_beq, sv_pick, sv_add, sv_sub, sv_fn, sv_eqs, E.den, List.map, K.holds] at hs
    simp only [asrOK_cons, asrOK_nil, if_true, if_false, Bool.false_eq_true, E.den] at ha
    obtain ⟨⟨h17, k17⟩, ⟨h16, k16⟩, ⟨h15, k15⟩, ⟨h14, k14⟩, ⟨h13, k13⟩, ⟨h12, k12⟩, _⟩ := hs
    obtain ⟨a0, a1, a2, a3, a4, a5, _⟩ := ha
    refine dec_one (p := [ρ 0, ρ 1, ρ 2, ρ 3, ρ 4, ρ 5] = [ρ 6, ρ 7, ρ 8, ρ 9, ρ 10, ρ 11]) (z := 0) ?_
    simp only [val, q, List.cons.injEq, and_true]
    omega
  · simp only [satTr_cons, satTr_nil, sv_lss, sv_leq, sv_gtr, sv_geq, sv_eql, sv_neq, sv_not, sv_beq, sv_pick, sv_add, sv_sub, sv_fn, sv_eqs, E.den, List.map, K.holds] at hs
    simp only [asrOK_cons, asrOK_nil, if_true, if_false, Bool.false_eq_true, E.den] at ha
    obtain ⟨⟨h17, k17⟩, ⟨h16, k16⟩, ⟨h15, k15⟩, ⟨h14, k14⟩, ⟨h13, k13⟩, ⟨h12, k12⟩, _⟩ := hs
    obtain ⟨a0, a1, a2, a3, a4, a5, _⟩ := ha
    refine dec_one (p := [ρ 0, ρ 1, ρ 2, ρ 3, ρ 4, ρ 5] = [ρ 6, ρ 7, ρ 8, ρ 9, ρ 10, ρ 11]) (z := 1) ?_
    simp only [val, q, List.cons.injEq, and_true]
    omega

/-! ### prime -/
def su_prime : Summ := ⟨[], none, [.slc 6]⟩
def t_prime0 : CT := .leaf ⟨[],
    [], [.c 13402431016077863595, .c 2210141511517208575, .c 7435674573564081700, .c 7239337960414712511, .c 5412103778470702295, .c 1873798617647539866]⟩
theorem chk_prime : checkFn Try.prog [] su_prime 400 Try.f10 (fun _ => t_prime0) = true := by kernel_rfl
theorem ok_prime : SummOK Try.prog 10 su_prime (Phi 10) := by
  refine summ_fn (Φ := Phi) 400 (fun _ => t_prime0) Try.func10 tbl_nil chk_prime ?_
  intro al hal l hl ρ hk hs ha
  have hn : su_prime.inKinds.length = 0 := rfl
  have hr : row ρ 0 = [] := rfl
  rw [hn, hr] at hk ⊢
  simp only [su_prime, Summ.inKinds, List.flatMap_cons, List.flatMap_nil, List.replicate, List.cons_append, List.nil_append, List.append_nil, holdsAll, K.holds] at hk
  simp only [t_prime0, CT.leaves, List.cons_append, List.nil_append, List.mem_cons, List.not_mem_nil, or_false] at hl
  subst hl
  simp only [satTr_cons, satTr_nil, sv_lss, sv_leq, sv_gtr, sv_geq, sv_eql, sv_neq, sv_not, sv_beq, sv_pick, sv_add, sv_sub, sv_fn, sv_eqs, E.den, List.map, K.holds] at hs
  simp only [asrOK_cons, asrOK_nil, if_true, if_false, Bool.false_eq_true, E.den] at ha
  clear hs
  clear ha
  change wds 6 q = [13402431016077863595, 2210141511517208575, 7435674573564081700, 7239337960414712511, 5412103778470702295, 1873798617647539866]
  kernel_rfl

/-! ### plus -/
def su_plus : Summ := ⟨[.slc 6, .slc 6], none, [.slc 6, .sc .bool]⟩
def t_plus0 : CT := .leaf ⟨[(48, .bool, .cmp .eql (.v 47) (.c 1)),
    (47, .i .u64, .pick (.v 46) (.c 1) (.c 0)),
    (46, .bool, .pick (.v 43) (.c 1) (.v 45)),
    (45, .bool, .cmp .lss (.v 44) (.v 42)),
    (44, .i .u64, .bin .add .u64 (.v 42) (.v 11)),
    (43, .bool, .cmp .lss (.v 42) (.v 41)),
    (42, .i .u64, .bin .add .u64 (.v 5) (.v 41)),
    (41, .i .u64, .pick (.v 40) (.c 1) (.c 0)),
    (40, .bool, .pick (.v 37) (.c 1) (.v 39)),
    (39, .bool, .cmp .lss (.v 38) (.v 36)),
    (38, .i .u64, .bin .add .u64 (.v 36) (.v 10)),
    (37, .bool, .cmp .lss (.v 36) (.v 35)),
    (36, .i .u64, .bin .add .u64 (.v 4) (.v 35)),
    (35, .i .u64, .pick (.v 34) (.c 1) (.c 0)),
    (34, .bool, .pick (.v 31) (.c 1) (.v 33)),
    (33, .bool, .cmp .lss (.v 32) (.v 30)),
    (32, .i .u64, .bin .add .u64 (.v 30) (.v 9)),
    (31, .bool, .cmp .lss (.v 30) (.v 29)),
    (30, .i .u64, .bin .add .u64 (.v 3) (.v 29)),
    (29, .i .u64, .pick (.v 28) (.c 1) (.c 0)),
    (28, .bool, .pick (.v 25) (.c 1) (.v 27)),
    (27, .bool, .cmp .lss (.v 26) (.v 24)),
    (26, .i .u64, .bin .add .u64 (.v 24) (.v 8)),
    (25, .bool, .cmp .lss (.v 24) (.v 23)),
    (24, .i .u64, .bin .add .u64 (.v 2) (.v 23)),
    (23, .i .u64, .pick (.v 22) (.c 1) (.c 0)),
    (22, .bool, .pick (.v 19) (.c 1) (.v 21)),
    (21, .bool, .cmp .lss (.v 20) (.v 18)),
    (20, .i .u64, .bin .add .u64 (.v 18) (.v 7)),
    (19, .bool, .cmp .lss (.v 18) (.v 17)),
    (18, .i .u64, .bin .add .u64 (.v 1) (.v 17)),
    (17, .i .u64, .pick (.v 16) (.c 1) (.c 0)),
    (16, .bool, .pick (.v 13) (.c 1) (.v 15)),
    (15, .bool, .cmp .lss (.v 14) (.v 12)),
    (14, .i .u64, .bin .add .u64 (.v 12) (.v 6)),
    (13, .bool, .cmp .lss (.v 12) (.c 0)),
    (12, .i .u64, .bin .add .u64 (.v 0) (.c 0))],
    [], [.v 14, .v 20, .v 26, .v 32, .v 38, .v 44, .v 48]⟩
theorem chk_plus : checkFn Try.prog [] su_plus 400 Try.f30 (fun _ => t_plus0) = true := by kernel_rfl
theorem ok_plus : SummOK Try.prog 30 su_plus (Phi 30) := by
  refine summ_fn (Φ := Phi) 400 (fun _ => t_plus0) Try.func30 tbl_nil chk_plus ?_
  intro al hal l hl ρ hk hs ha
  have hn : su_plus.inKinds.length = 12 := rfl
  have hr : row ρ 12 = [ρ 0, ρ 1, ρ 2, ρ 3, ρ 4, ρ 5, ρ 6, ρ 7, ρ 8, ρ 9, ρ 10, ρ 11] := rfl
  rw [hn, hr] at hk ⊢
  simp only [su_plus, Summ.inKinds, List.flatMap_cons, List.flatMap_nil, List.replicate, List.cons_append, List.nil_append, List.append_nil, holdsAll, K.holds] at hk
  obtain ⟨b0, b1, b2, b3, b4, b5, b6, b7, b8, b9, b10, b11, _⟩ := hk
  simp only [t_plus0, CT.leaves, List.cons_append, List.nil_append, List.mem_cons, List.not_mem_nil, or_false] at hl
  subst hl
  simp only [satTr_cons, satTr_nil, sv_lss, sv_leq, sv_gtr, sv_geq, sv_eql, sv_neq, sv_not, sv_beq, sv_pick, sv_add, sv_sub, sv_fn, sv_eqs, E.den, List.map, K.holds] at hs
  simp only [asrOK_cons, asrOK_nil, if_true, if_false, Bool.false_eq_true, E.den] at ha
  obtain ⟨⟨h48, k48⟩, ⟨h47, k47⟩, ⟨h46, k46⟩, ⟨h45, k45⟩, ⟨h44, k44⟩, ⟨h43, k43⟩, ⟨h42, k42⟩, ⟨h41, k41⟩, ⟨h40, k40⟩, ⟨h39, k39⟩, ⟨h38, k38⟩, ⟨h37, k37⟩, ⟨h36, k36⟩, ⟨h35, k35⟩, ⟨h34, k34⟩, ⟨h33, k33⟩, ⟨h32, k32⟩, ⟨h31, k31⟩, ⟨h30, k30⟩, ⟨h29, k29⟩, ⟨h28, k28⟩, ⟨h27, k27⟩, ⟨h26, k26⟩, ⟨h25, k25⟩, ⟨h24, k24⟩, ⟨h23, k23⟩, ⟨h22, k22⟩, ⟨h21, k21⟩, ⟨h20, k20⟩, ⟨h19, k19⟩, ⟨h18, k18⟩, ⟨h17, k17⟩, ⟨h16, k16⟩, ⟨h15, k15⟩, ⟨h14, k14⟩, ⟨h13, k13⟩, ⟨h12, k12⟩, _⟩ := hs
  clear ha
  obtain ⟨r0, c0⟩ := plus_round b0 b6 (.inl rfl) h12 h13 h14 h15 h16 h17
  obtain ⟨r1, c1⟩ := plus_round b1 b7 c0 h18 h19 h20 h21 h22 h23
  obtain ⟨r2, c2⟩ := plus_round b2 b8 c1 h24 h25 h26 h27 h28 h29
  obtain ⟨r3, c3⟩ := plus_round b3 b9 c2 h30 h31 h32 h33 h34 h35
  obtain ⟨r4, c4⟩ := plus_round b4 b10 c3 h36 h37 h38 h39 h40 h41
  obtain ⟨r5, c5⟩ := plus_round b5 b11 c4 h42 h43 h44 h45 h46 h47
  clear h12 h13 h14 h15 h16 h17 h18 h19 h20 h21 h22 h23 h24 h25 h26 h27 h28 h29 h30 h31 h32 h33 h34 h35 h36 h37 h38 h39 h40 h41 h42 h43 h44 h45 h46 h47
  refine plus_done (n := 6) (a := [ρ 0, ρ 1, ρ 2, ρ 3, ρ 4, ρ 5]) (b := [ρ 6, ρ 7, ρ 8, ρ 9, ρ 10, ρ 11]) (s := [ρ 14, ρ 20, ρ 26, ρ 32, ρ 38, ρ 44]) (c := ρ 47) (d := ρ 48) (u64s_cons k14 (u64s_cons k20 (u64s_cons k26 (u64s_cons k32 (u64s_cons k38 (u64s_cons k44 u64s_nil)))))) rfl ?_ c5 h48
  simp only [val, big]
  omega

/-! ### lessen -/
def su_lessen : Summ := ⟨[.slc 6, .slc 6], none, [.slc 6, .sc .bool]⟩
def t_lessen0 : CT := .leaf ⟨[(48, .bool, .cmp .eql (.v 47) (.c 1)),
    (47, .i .u64, .pick (.v 46) (.c 1) (.c 0)),
    (46, .bool, .pick (.v 43) (.c 1) (.v 45)),
    (45, .bool, .cmp .lss (.v 42) (.v 11)),
    (44, .i .u64, .bin .sub .u64 (.v 42) (.v 11)),
    (43, .bool, .cmp .lss (.v 5) (.v 41)),
    (42, .i .u64, .bin .sub .u64 (.v 5) (.v 41)),
    (41, .i .u64, .pick (.v 40) (.c 1) (.c 0)),
    (40, .bool, .pick (.v 37) (.c 1) (.v 39)),
    (39, .bool, .cmp .lss (.v 36) (.v 10)),
    (38, .i .u64, .bin .sub .u64 (.v 36) (.v 10)),
    (37, .bool, .cmp .lss (.v 4) (.v 35)),
    (36, .i .u64, .bin .sub .u64 (.v 4) (.v 35)),
    (35, .i .u64, .pick (.v 34) (.c 1) (.c 0)),
    (34, .bool, .pick (.v 31) (.c 1) (.v 33)),
    (33, .bool, .cmp .lss (.v 30) (.v 9)),
    (32, .i .u64, .bin .sub .u64 (.v 30) (.v 9)),
    (31, .bool, .cmp .lss (.v 3) (.v 29)),
    (30, .i .u64, .bin .sub .u64 (.v 3) (.v 29)),
    (29, .i .u64, .pick (.v 28) (.c 1) (.c 0)),
    (28, .bool, .pick (.v 25) (.c 1) (.v 27)),
    (27, .bool, .cmp .lss (.v 24) (.v 8)),
    (26, .i .u64, .bin .sub .u64 (.v 24) (.v 8)),
    (25, .bool, .cmp .lss (.v 2) (.v 23)),
    (24, .i .u64, .bin .sub .u64 (.v 2) (.v 23)),
    (23, .i .u64, .pick (.v 22) (.c 1) (.c 0)),
    (22, .bool, .pick (.v 19) (.c 1) (.v 21)),
    (21, .bool, .cmp .lss (.v 18) (.v 7)),
    (20, .i .u64, .bin .sub .u64 (.v 18) (.v 7)),
    (19, .bool, .cmp .lss (.v 1) (.v 17)),
    (18, .i .u64, .bin .sub .u64 (.v 1) (.v 17)),
    (17, .i .u64, .pick (.v 16) (.c 1) (.c 0)),
    (16, .bool, .pick (.v 13) (.c 1) (.v 15)),
    (15, .bool, .cmp .lss (.v 12) (.v 6)),
    (14, .i .u64, .bin .sub .u64 (.v 12) (.v 6)),
    (13, .bool, .cmp .lss (.v 0) (.c 0)),
    (12, .i .u64, .bin .sub .u64 (.v 0) (.c 0))],
    [], [.v 14, .v 20, .v 26, .v 32, .v 38, .v 44, .v 48]⟩
theorem chk_lessen : checkFn Try.prog [] su_lessen 400 Try.f29 (fun _ => t_lessen0) = true := by kernel_rfl
theorem ok_lessen : SummOK Try.prog 29 su_lessen (Phi 29) := by
  refine summ_fn (Φ := Phi) 400 (fun _ => t_lessen0) Try.func29 tbl_nil chk_lessen ?_
  intro al hal l hl ρ hk hs ha
  have hn : su_lessen.inKinds.length = 12 := rfl
  have hr : row ρ 12 = [ρ 0, ρ 1, ρ 2, ρ 3, ρ 4, ρ 5, ρ 6, ρ 7, ρ 8, ρ 9, ρ 10, ρ 11] := rfl
  rw [hn, hr] at hk ⊢
  simp only [su_lessen, Summ.inKinds, List.flatMap_cons, List.flatMap_nil, List.replicate, List.cons_append, List.nil_append, List.append_nil, holdsAll, K.holds] at hk
  obtain ⟨b0, b1, b2, b3, b4, b5, b6, b7, b8, b9, b10, b11, _⟩ := hk
  simp only [t_lessen0, CT.leaves, List.cons_append, List.nil_append, List.mem_cons, List.not_mem_nil, or_false] at hl
  subst hl
  simp only [satTr_cons, satTr_nil, sv_lss, sv_leq, sv_gtr, sv_geq, sv_eql, sv_neq, sv_not, sv_beq, sv_pick, sv_add, sv_sub, sv_fn, sv_eqs, E.den, List.map, K.holds] at hs
  simp only [asrOK_cons, asrOK_nil, if_true, if_false, Bool.false_eq_true, E.den] at ha
  obtain ⟨⟨h48, k48⟩, ⟨h47, k47⟩, ⟨h46, k46⟩, ⟨h45, k45⟩, ⟨h44, k44⟩, ⟨h43, k43⟩, ⟨h42, k42⟩, ⟨h41, k41⟩, ⟨h40, k40⟩, ⟨h39, k39⟩, ⟨h38, k38⟩, ⟨h37, k37⟩, ⟨h36, k36⟩, ⟨h35, k35⟩, ⟨h34, k34⟩, ⟨h33, k33⟩, ⟨h32, k32⟩, ⟨h31, k31⟩, ⟨h30, k30⟩, ⟨h29, k29⟩, ⟨h28, k28⟩, ⟨h27, k27⟩, ⟨h26, k26⟩, ⟨h25, k25⟩, ⟨h24, k24⟩, ⟨h23, k23⟩, ⟨h22, k22⟩, ⟨h21, k21⟩, ⟨h20, k20⟩, ⟨h19, k19⟩, ⟨h18, k18⟩, ⟨h17, k17⟩, ⟨h16, k16⟩, ⟨h15, k15⟩, ⟨h14, k14⟩, ⟨h13, k13⟩, ⟨h12, k12⟩, _⟩ := hs
  clear ha
  obtain ⟨r0, c0⟩ := lessen_round b0 b6 (.inl rfl) h12 h13 h14 h15 h16 h17
  obtain ⟨r1, c1⟩ := lessen_round b1 b7 c0 h18 h19 h20 h21 h22 h23
  obtain ⟨r2, c2⟩ := lessen_round b2 b8 c1 h24 h25 h26 h27 h28 h29
  obtain ⟨r3, c3⟩ := lessen_round b3 b9 c2 h30 h31 h32 h33 h34 h35
  obtain ⟨r4, c4⟩ := lessen_round b4 b10 c3 h36 h37 h38 h39 h40 h41
  obtain ⟨r5, c5⟩ := lessen_round b5 b11 c4 h42 h43 h44 h45 h46 h47
  clear h12 h13 h14 h15 h16 h17 h18 h19 h20 h21 h22 h23 h24 h25 h26 h27 h28 h29 h30 h31 h32 h33 h34 h35 h36 h37 h38 h39 h40 h41 h42 h43 h44 h45 h46 h47
  refine lessen_done (n := 6) (a := [ρ 0, ρ 1, ρ 2, ρ 3, ρ 4, ρ 5]) (b := [ρ 6, ρ 7, ρ 8, ρ 9, ρ 10, ρ 11]) (s := [ρ 14, ρ 20, ρ 26, ρ 32, ρ 38, ρ 44]) (c := ρ 47) (d := ρ 48) (u64s_cons k14 (u64s_cons k20 (u64s_cons k26 (u64s_cons k32 (u64s_cons k38 (u64s_cons k44 u64s_nil)))))) rfl ?_ c5 h48
  simp only [val, big]
  omega

/-! ### addW -/
def su_addW : Summ := ⟨[.slc 6, .slc 6, .slc 6], none, [.slc 6]⟩
def t_addW0 : CT := .node (.v 27)
  (.leaf ⟨[(34, .bool, .fn 29 [.v 18, .v 19, .v 20, .v 21, .v 22, .v 23, .v 12, .v 13, .v 14, .v 15, .v 16, .v 17] 6),
    (33, .i .u64, .fn 29 [.v 18, .v 19, .v 20, .v 21, .v 22, .v 23, .v 12, .v 13, .v 14, .v 15, .v 16, .v 17] 5),
    (32, .i .u64, .fn 29 [.v 18, .v 19, .v 20, .v 21, .v 22, .v 23, .v 12, .v 13, .v 14, .v 15, .v 16, .v 17] 4),
    (31, .i .u64, .fn 29 [.v 18, .v 19, .v 20, .v 21, .v 22, .v 23, .v 12, .v 13, .v 14, .v 15, .v 16, .v 17] 3),
    (30, .i .u64, .fn 29 [.v 18, .v 19, .v 20, .v 21, .v 22, .v 23, .v 12, .v 13, .v 14, .v 15, .v 16, .v 17] 2),
    (29, .i .u64, .fn 29 [.v 18, .v 19, .v 20, .v 21, .v 22, .v 23, .v 12, .v 13, .v 14, .v 15, .v 16, .v 17] 1),
    (28, .i .u64, .fn 29 [.v 18, .v 19, .v 20, .v 21, .v 22, .v 23, .v 12, .v 13, .v 14, .v 15, .v 16, .v 17] 0),
    (27, .bool, .pick (.v 24) (.c 1) (.v 26)),
    (26, .bool, .not (.v 25)),
    (25, .bool, .fn 9 [.v 18, .v 19, .v 20, .v 21, .v 22, .v 23, .v 12, .v 13, .v 14, .v 15, .v 16, .v 17] 0),
    (24, .bool, .fn 30 [.v 0, .v 1, .v 2, .v 3, .v 4, .v 5, .v 6, .v 7, .v 8, .v 9, .v 10, .v 11] 6),
    (23, .i .u64, .fn 30 [.v 0, .v 1, .v 2, .v 3, .v 4, .v 5, .v 6, .v 7, .v 8, .v 9, .v 10, .v 11] 5),
    (22, .i .u64, .fn 30 [.v 0, .v 1, .v 2, .v 3, .v 4, .v 5, .v 6, .v 7, .v 8, .v 9, .v 10, .v 11] 4),
    (21, .i .u64, .fn 30 [.v 0, .v 1, .v 2, .v 3, .v 4, .v 5, .v 6, .v 7, .v 8, .v 9, .v 10, .v 11] 3),
    (20, .i .u64, .fn 30 [.v 0, .v 1, .v 2, .v 3, .v 4, .v 5, .v 6, .v 7, .v 8, .v 9, .v 10, .v 11] 2),
    (19, .i .u64, .fn 30 [.v 0, .v 1, .v 2, .v 3, .v 4, .v 5, .v 6, .v 7, .v 8, .v 9, .v 10, .v 11] 1),
    (18, .i .u64, .fn 30 [.v 0, .v 1, .v 2, .v 3, .v 4, .v 5, .v 6, .v 7, .v 8, .v 9, .v 10, .v 11] 0)],
    [(.v 27, true)], [.v 28, .v 29, .v 30, .v 31, .v 32, .v 33]⟩)
  (.leaf ⟨[(27, .bool, .pick (.v 24) (.c 1) (.v 26)),
    (26, .bool, .not (.v 25)),
    (25, .bool, .fn 9 [.v 18, .v 19, .v 20, .v 21, .v 22, .v 23, .v 12, .v 13, .v 14, .v 15, .v 16, .v 17] 0),
    (24, .bool, .fn 30 [.v 0, .v 1, .v 2, .v 3, .v 4, .v 5, .v 6, .v 7, .v 8, .v 9, .v 10, .v 11] 6),
    (23, .i .u64, .fn 30 [.v 0, .v 1, .v 2, .v 3, .v 4, .v 5, .v 6, .v 7, .v 8, .v 9, .v 10, .v 11] 5),
    (22, .i .u64, .fn 30 [.v 0, .v 1, .v 2, .v 3, .v 4, .v 5, .v 6, .v 7, .v 8, .v 9, .v 10, .v 11] 4),
    (21, .i .u64, .fn 30 [.v 0, .v 1, .v 2, .v 3, .v 4, .v 5, .v 6, .v 7, .v 8, .v 9, .v 10, .v 11] 3),
    (20, .i .u64, .fn 30 [.v 0, .v 1, .v 2, .v 3, .v 4, .v 5, .v 6, .v 7, .v 8, .v 9, .v 10, .v 11] 2),
    (19, .i .u64, .fn 30 [.v 0, .v 1, .v 2, .v 3, .v 4, .v 5, .v 6, .v 7, .v 8, .v 9, .v 10, .v 11] 1),
    (18, .i .u64, .fn 30 [.v 0, .v 1, .v 2, .v 3, .v 4, .v 5, .v 6, .v 7, .v 8, .v 9, .v 10, .v 11] 0)],
    [(.v 27, false)], [.v 18, .v 19, .v 20, .v 21, .v 22, .v 23]⟩)
theorem chk_addW : checkFn Try.prog [(30, su_plus), (29, su_lessen), (9, su_less)] su_addW 400 Try.f27 (fun _ => t_addW0) = true := by kernel_rfl
theorem ok_addW : SummOK Try.prog 27 su_addW (Phi 27) := by
  refine summ_fn (Φ := Phi) 400 (fun _ => t_addW0) Try.func27 (tbl_cons ok_plus (tbl_cons ok_lessen (tbl_cons ok_less tbl_nil))) chk_addW ?_
  intro al hal l hl ρ hk hs ha
  have hn : su_addW.inKinds.length = 18 := rfl
  have hr : row ρ 18 = [ρ 0, ρ 1, ρ 2, ρ 3, ρ 4, ρ 5, ρ 6, ρ 7, ρ 8, ρ 9, ρ 10, ρ 11, ρ 12, ρ 13, ρ 14, ρ 15, ρ 16, ρ 17] := rfl
  rw [hn, hr] at hk ⊢
  simp only [su_addW, Summ.inKinds, List.flatMap_cons, List.flatMap_nil, List.replicate, List.cons_append, List.nil_append, List.append_nil, holdsAll, K.holds] at hk
  obtain ⟨b0, b1, b2, b3, b4, b5, b6, b7, b8, b9, b10, b11, b12, b13, b14, b15, b16, b17, _⟩ := hk
  simp only [t_addW0, CT.leaves, List.cons_append, List.nil_append, List.mem_cons, List.not_mem_nil, or_false] at hl
  rcases hl with rfl | rfl
  · simp only [satTr_cons, satTr_nil, sv_lss, sv_leq, sv_gtr, sv_geq, sv_eql, sv_neq, sv_not, sv_beq, sv_pick, sv_add, sv_sub, sv_fn, sv_eqs, E.den, List.map, K.holds] at hs
    simp only [asrOK_cons, asrOK_nil, if_true, if_false, Bool.false_eq_true, E.den] at ha
    obtain ⟨⟨h34, k34⟩, ⟨h33, k33⟩, ⟨h32, k32⟩, ⟨h31, k31⟩, ⟨h30, k30⟩, ⟨h29, k29⟩, ⟨h28, k28⟩, ⟨h27, k27⟩, ⟨h26, k26⟩, ⟨h25, k25⟩, ⟨h24, k24⟩, ⟨h23, k23⟩, ⟨h22, k22⟩, ⟨h21, k21⟩, ⟨h20, k20⟩, ⟨h19, k19⟩, ⟨h18, k18⟩, _⟩ := hs
    obtain ⟨a0, _⟩ := ha
    have g18 : [ρ 18, ρ 19, ρ 20, ρ 21, ρ 22, ρ 23] = wds 6 (val [ρ 0, ρ 1, ρ 2, ρ 3, ρ 4, ρ 5] + val [ρ 6, ρ 7, ρ 8, ρ 9, ρ 10, ρ 11]) := get6 rfl h18 h19 h20 h21 h22 h23
    have e24 : ρ 24 = b2i (decide (big 6 ≤ val [ρ 0, ρ 1, ρ 2, ρ 3, ρ 4, ρ 5] + val [ρ 6, ρ 7, ρ 8, ρ 9, ρ 10, ρ 11])) := h24
    rw [st_dec] at e24
    have e25 : ρ 25 = b2i (decide (val [ρ 18, ρ 19, ρ 20, ρ 21, ρ 22, ρ 23] < val [ρ 12, ρ 13, ρ 14, ρ 15, ρ 16, ρ 17])) := h25
    rw [st_dec] at e25
    have g28 : [ρ 28, ρ 29, ρ 30, ρ 31, ρ 32, ρ 33] = wds 6 (val [ρ 18, ρ 19, ρ 20, ρ 21, ρ 22, ρ 23] - val [ρ 12, ρ 13, ρ 14, ρ 15, ρ 16, ρ 17]) := get6 rfl h28 h29 h30 h31 h32 h33
    have e34 : ρ 34 = b2i (decide (val [ρ 18, ρ 19, ρ 20, ρ 21, ρ 22, ρ 23] < val [ρ 12, ρ 13, ρ 14, ρ 15, ρ 16, ρ 17])) := h34
    rw [st_dec] at e34
    rw [g18] at e25
    change wds 6 (addM (val [ρ 0, ρ 1, ρ 2, ρ 3, ρ 4, ρ 5]) (val [ρ 6, ρ 7, ρ 8, ρ 9, ρ 10, ρ 11]) (val [ρ 12, ρ 13, ρ 14, ρ 15, ρ 16, ρ 17])) = [ρ 28, ρ 29, ρ 30, ρ 31, ρ 32, ρ 33]
    rw [g28, g18]
    exact addW_yes (u64s_cons b0 (u64s_cons b1 (u64s_cons b2 (u64s_cons b3 (u64s_cons b4 (u64s_cons b5 u64s_nil)))))) (u64s_cons b6 (u64s_cons b7 (u64s_cons b8 (u64s_cons b9 (u64s_cons b10 (u64s_cons b11 u64s_nil)))))) (u64s_cons b12 (u64s_cons b13 (u64s_cons b14 (u64s_cons b15 (u64s_cons b16 (u64s_cons b17 u64s_nil)))))) rfl (by by_cases hq : big 6 ≤ val [ρ 0, ρ 1, ρ 2, ρ 3, ρ 4, ρ 5] + val [ρ 6, ρ 7, ρ 8, ρ 9, ρ 10, ρ 11]; exact .inl hq; right; intro hlt; simp only [hq, hlt, not_true_eq_false, not_false_eq_true, true_and, false_and, false_or, or_false] at e24 e25; omega)
  · simp only [satTr_cons, satTr_nil, sv_lss, sv_leq, sv_gtr, sv_geq, sv_eql, sv_neq, sv_not, sv_beq, sv_pick, sv_add, sv_sub, sv_fn, sv_eqs, E.den, List.map, K.holds] at hs
    simp only [asrOK_cons, asrOK_nil, if_true, if_false, Bool.false_eq_true, E.den] at ha
    obtain ⟨⟨h27, k27⟩, ⟨h26, k26⟩, ⟨h25, k25⟩, ⟨h24, k24⟩, ⟨h23, k23⟩, ⟨h22, k22⟩, ⟨h21, k21⟩, ⟨h20, k20⟩, ⟨h19, k19⟩, ⟨h18, k18⟩, _⟩ := hs
    obtain ⟨a0, _⟩ := ha
    have g18 : [ρ 18, ρ 19, ρ 20, ρ 21, ρ 22, ρ 23] = wds 6 (val [ρ 0, ρ 1, ρ 2, ρ 3, ρ 4, ρ 5] + val [ρ 6, ρ 7, ρ 8, ρ 9, ρ 10, ρ 11]) := get6 rfl h18 h19 h20 h21 h22 h23
    have e24 : ρ 24 = b2i (decide (big 6 ≤ val [ρ 0, ρ 1, ρ 2, ρ 3, ρ 4, ρ 5] + val [ρ 6, ρ 7, ρ 8, ρ 9, ρ 10, ρ 11])) := h24
    rw [st_dec] at e24
    have e25 : ρ 25 = b2i (decide (val [ρ 18, ρ 19, ρ 20, ρ 21, ρ 22, ρ 23] < val [ρ 12, ρ 13, ρ 14, ρ 15, ρ 16, ρ 17])) := h25
    rw [st_dec] at e25
    rw [g18] at e25
    change wds 6 (addM (val [ρ 0, ρ 1, ρ 2, ρ 3, ρ 4, ρ 5]) (val [ρ 6, ρ 7, ρ 8, ρ 9, ρ 10, ρ 11]) (val [ρ 12, ρ 13, ρ 14, ρ 15, ρ 16, ρ 17])) = [ρ 18, ρ 19, ρ 20, ρ 21, ρ 22, ρ 23]
    rw [g18]
    by_cases hq : big 6 ≤ val [ρ 0, ρ 1, ρ 2, ρ 3, ρ 4, ρ 5] + val [ρ 6, ρ 7, ρ 8, ρ 9, ρ 10, ρ 11]
    · simp only [hq, not_true_eq_false, true_and, false_and, or_false] at e24; omega
    · by_cases hl : val (wds 6 (val [ρ 0, ρ 1, ρ 2, ρ 3, ρ 4, ρ 5] + val [ρ 6, ρ 7, ρ 8, ρ 9, ρ 10, ρ 11])) < val [ρ 12, ρ 13, ρ 14, ρ 15, ρ 16, ρ 17]
      · exact addW_no (u64s_cons b0 (u64s_cons b1 (u64s_cons b2 (u64s_cons b3 (u64s_cons b4 (u64s_cons b5 u64s_nil)))))) (u64s_cons b6 (u64s_cons b7 (u64s_cons b8 (u64s_cons b9 (u64s_cons b10 (u64s_cons b11 u64s_nil)))))) hq hl
      · simp only [hl, not_false_eq_true, true_and, false_and, false_or] at e25; omega

/-! ### oneW -/
def su_oneW : Summ := ⟨[.cn 6], none, [.slc 6]⟩
def t_oneW0 : CT := .leaf ⟨[],
    [], [.c 1, .c 0, .c 0, .c 0, .c 0, .c 0]⟩
theorem chk_oneW : checkFn Try.prog [] su_oneW 400 Try.f15 (fun _ => t_oneW0) = true := by kernel_rfl
theorem ok_oneW : SummOK Try.prog 15 su_oneW (Phi 15) := by
  refine summ_fn (Φ := Phi) 400 (fun _ => t_oneW0) Try.func15 tbl_nil chk_oneW ?_
  intro al hal l hl ρ hk hs ha
  have hn : su_oneW.inKinds.length = 1 := rfl
  have hr : row ρ 1 = [ρ 0] := rfl
  rw [hn, hr] at hk ⊢
  simp only [su_oneW, Summ.inKinds, List.flatMap_cons, List.flatMap_nil, List.replicate, List.cons_append, List.nil_append, List.append_nil, holdsAll, K.holds] at hk
  obtain ⟨b0, _⟩ := hk
  simp only [t_oneW0, CT.leaves, List.cons_append, List.nil_append, List.mem_cons, List.not_mem_nil, or_false] at hl
  subst hl
  simp only [satTr_cons, satTr_nil, sv_lss, sv_leq, sv_gtr, sv_geq, sv_eql, sv_neq, sv_not, sv_beq, sv_pick, sv_add, sv_sub, sv_fn, sv_eqs, E.den, List.map, K.holds] at hs
  simp only [asrOK_cons, asrOK_nil, if_true, if_false, Bool.false_eq_true, E.den] at ha
  clear hs
  clear ha
  change wds 6 1 = [1, 0, 0, 0, 0, 0]
  kernel_rfl

/-! ### shifted -/
def su_shifted : Summ := ⟨[.slc 6, .slc 6], none, [.slc 6]⟩
def form_shifted : Tmpl := { kin := [.i .u64, .i .u64, .i .u64, .i .u64, .i .u64, .i .u64, .i .u64, .i .u64, .i .u64, .i .u64, .i .u64, .i .u64, .i .i64], slots := [(0, .s (.slc 2 0 6 6)), (1, .s (.slc 1 0 6 6)), (5, .s (.int .i64 (.v 12)))], mem := [(2, [.int .u64 (.v 0), .int .u64 (.v 1), .int .u64 (.v 2), .int .u64 (.v 3), .int .u64 (.v 4), .int .u64 (.v 5)]), (1, [.int .u64 (.v 6), .int .u64 (.v 7), .int .u64 (.v 8), .int .u64 (.v 9), .int .u64 (.v 10), .int .u64 (.v 11)])], nr := 3 }
def t_shifted0 : CT := .leaf ⟨[(17, .i .u64, .fn 27 [.v 0, .v 1, .v 2, .v 3, .v 4, .v 5, .v 0, .v 1, .v 2, .v 3, .v 4, .v 5, .v 6, .v 7, .v 8, .v 9, .v 10, .v 11] 5),
    (16, .i .u64, .fn 27 [.v 0, .v 1, .v 2, .v 3, .v 4, .v 5, .v 0, .v 1, .v 2, .v 3, .v 4, .v 5, .v 6, .v 7, .v 8, .v 9, .v 10, .v 11] 4),
    (15, .i .u64, .fn 27 [.v 0, .v 1, .v 2, .v 3, .v 4, .v 5, .v 0, .v 1, .v 2, .v 3, .v 4, .v 5, .v 6, .v 7, .v 8, .v 9, .v 10, .v 11] 3),
    (14, .i .u64, .fn 27 [.v 0, .v 1, .v 2, .v 3, .v 4, .v 5, .v 0, .v 1, .v 2, .v 3, .v 4, .v 5, .v 6, .v 7, .v 8, .v 9, .v 10, .v 11] 2),
    (13, .i .u64, .fn 27 [.v 0, .v 1, .v 2, .v 3, .v 4, .v 5, .v 0, .v 1, .v 2, .v 3, .v 4, .v 5, .v 6, .v 7, .v 8, .v 9, .v 10, .v 11] 1),
    (12, .i .u64, .fn 27 [.v 0, .v 1, .v 2, .v 3, .v 4, .v 5, .v 0, .v 1, .v 2, .v 3, .v 4, .v 5, .v 6, .v 7, .v 8, .v 9, .v 10, .v 11] 0)],
    [], [.v 12, .v 13, .v 14, .v 15, .v 16, .v 17, .v 6, .v 7, .v 8, .v 9, .v 10, .v 11, .c 1, .c 1]⟩
def t_shifted1 : CT := .node (.v 13)
  (.leaf ⟨[(20, .i .i64, .bin .add .i64 (.v 12) (.c 1)),
    (19, .i .u64, .fn 27 [.v 0, .v 1, .v 2, .v 3, .v 4, .v 5, .v 0, .v 1, .v 2, .v 3, .v 4, .v 5, .v 6, .v 7, .v 8, .v 9, .v 10, .v 11] 5),
    (18, .i .u64, .fn 27 [.v 0, .v 1, .v 2, .v 3, .v 4, .v 5, .v 0, .v 1, .v 2, .v 3, .v 4, .v 5, .v 6, .v 7, .v 8, .v 9, .v 10, .v 11] 4),
    (17, .i .u64, .fn 27 [.v 0, .v 1, .v 2, .v 3, .v 4, .v 5, .v 0, .v 1, .v 2, .v 3, .v 4, .v 5, .v 6, .v 7, .v 8, .v 9, .v 10, .v 11] 3),
    (16, .i .u64, .fn 27 [.v 0, .v 1, .v 2, .v 3, .v 4, .v 5, .v 0, .v 1, .v 2, .v 3, .v 4, .v 5, .v 6, .v 7, .v 8, .v 9, .v 10, .v 11] 2),
    (15, .i .u64, .fn 27 [.v 0, .v 1, .v 2, .v 3, .v 4, .v 5, .v 0, .v 1, .v 2, .v 3, .v 4, .v 5, .v 6, .v 7, .v 8, .v 9, .v 10, .v 11] 1),
    (14, .i .u64, .fn 27 [.v 0, .v 1, .v 2, .v 3, .v 4, .v 5, .v 0, .v 1, .v 2, .v 3, .v 4, .v 5, .v 6, .v 7, .v 8, .v 9, .v 10, .v 11] 0),
    (13, .bool, .cmp .lss (.v 12) (.c 384))],
    [(.v 13, true)], [.v 14, .v 15, .v 16, .v 17, .v 18, .v 19, .v 6, .v 7, .v 8, .v 9, .v 10, .v 11, .v 20, .c 1]⟩)
  (.leaf ⟨[(13, .bool, .cmp .lss (.v 12) (.c 384))],
    [(.v 13, false)], [.v 0, .v 1, .v 2, .v 3, .v 4, .v 5, .v 6, .v 7, .v 8, .v 9, .v 10, .v 11, .v 12, .c 0]⟩)
def t_shifted2 : CT := .leaf ⟨[],
    [], [.v 0, .v 1, .v 2, .v 3, .v 4, .v 5]⟩
theorem chk_shifted : loopChk Try.prog [(27, su_addW)] su_shifted 400 1 Try.f14 form_shifted t_shifted0 t_shifted1 t_shifted2 = true := by kernel_rfl
theorem ok_shifted : SummOK Try.prog 14 su_shifted (Phi 14) := by
  refine summ_loop (Φ := Phi) (τ := form_shifted) (preF := shPre 6) (step := shStep 6) (postF := fun vs => vs.take 6) t_shifted0 t_shifted1 t_shifted2 Try.func14 (tbl_cons ok_addW tbl_nil) chk_shifted ?_ ?_ ?_ ?_
  · intro l hl ρ hk hs ha
    have hn : su_shifted.inKinds.length = 12 := rfl
    have hr : row ρ 12 = [ρ 0, ρ 1, ρ 2, ρ 3, ρ 4, ρ 5, ρ 6, ρ 7, ρ 8, ρ 9, ρ 10, ρ 11] := rfl
    rw [hn, hr] at hk ⊢
    simp only [su_shifted, form_shifted, Summ.inKinds, List.flatMap_cons, List.flatMap_nil, List.replicate, List.cons_append, List.nil_append, List.append_nil, holdsAll, K.holds] at hk
    obtain ⟨b0, b1, b2, b3, b4, b5, b6, b7, b8, b9, b10, b11, _⟩ := hk
    simp only [t_shifted0, CT.leaves, List.cons_append, List.nil_append, List.mem_cons, List.not_mem_nil, or_false] at hl
    subst hl
    simp only [satTr_cons, satTr_nil, sv_lss, sv_leq, sv_gtr, sv_geq, sv_eql, sv_neq, sv_not, sv_beq, sv_pick, sv_add, sv_sub, sv_fn, sv_eqs, E.den, List.map, K.holds] at hs
    simp only [asrOK_cons, asrOK_nil, if_true, if_false, Bool.false_eq_true, E.den] at ha
    obtain ⟨⟨h17, k17⟩, ⟨h16, k16⟩, ⟨h15, k15⟩, ⟨h14, k14⟩, ⟨h13, k13⟩, ⟨h12, k12⟩, _⟩ := hs
    clear ha
    have g12 : [ρ 12, ρ 13, ρ 14, ρ 15, ρ 16, ρ 17] = wds 6 (addM (val [ρ 0, ρ 1, ρ 2, ρ 3, ρ 4, ρ 5]) (val [ρ 0, ρ 1, ρ 2, ρ 3, ρ 4, ρ 5]) (val [ρ 6, ρ 7, ρ 8, ρ 9, ρ 10, ρ 11])) := get6 rfl h12 h13 h14 h15 h16 h17
    change wds 6 (addM (val [ρ 0, ρ 1, ρ 2, ρ 3, ρ 4, ρ 5]) (val [ρ 0, ρ 1, ρ 2, ρ 3, ρ 4, ρ 5]) (val [ρ 6, ρ 7, ρ 8, ρ 9, ρ 10, ρ 11])) ++ [ρ 6, ρ 7, ρ 8, ρ 9, ρ 10, ρ 11] ++ [1] ++ [1] = _
    rw [← g12]
    rfl
  · intro l hl ρ hk hs ha
    have hn : form_shifted.kin.length = 13 := rfl
    have hr : row ρ 13 = [ρ 0, ρ 1, ρ 2, ρ 3, ρ 4, ρ 5, ρ 6, ρ 7, ρ 8, ρ 9, ρ 10, ρ 11, ρ 12] := rfl
    rw [hn, hr] at hk ⊢
    simp only [su_shifted, form_shifted, Summ.inKinds, List.flatMap_cons, List.flatMap_nil, List.replicate, List.cons_append, List.nil_append, List.append_nil, holdsAll, K.holds] at hk
    obtain ⟨b0, b1, b2, b3, b4, b5, b6, b7, b8, b9, b10, b11, b12, _⟩ := hk
    simp only [t_shifted1, CT.leaves, List.cons_append, List.nil_append, List.mem_cons, List.not_mem_nil, or_false] at hl
    rcases hl with rfl | rfl
    · simp only [satTr_cons, satTr_nil, sv_lss, sv_leq, sv_gtr, sv_geq, sv_eql, sv_neq, sv_not, sv_beq, sv_pick, sv_add, sv_sub, sv_fn, sv_eqs, E.den, List.map, K.holds] at hs
      simp only [asrOK_cons, asrOK_nil, if_true, if_false, Bool.false_eq_true, E.den] at ha
      obtain ⟨⟨h20, k20⟩, ⟨h19, k19⟩, ⟨h18, k18⟩, ⟨h17, k17⟩, ⟨h16, k16⟩, ⟨h15, k15⟩, ⟨h14, k14⟩, ⟨h13, k13⟩, _⟩ := hs
      obtain ⟨a0, _⟩ := ha
      have g14 : [ρ 14, ρ 15, ρ 16, ρ 17, ρ 18, ρ 19] = wds 6 (addM (val [ρ 0, ρ 1, ρ 2, ρ 3, ρ 4, ρ 5]) (val [ρ 0, ρ 1, ρ 2, ρ 3, ρ 4, ρ 5]) (val [ρ 6, ρ 7, ρ 8, ρ 9, ρ 10, ρ 11])) := get6 rfl h14 h15 h16 h17 h18 h19
      have hi : I.val Phi ρ (.bin .add .i64 (.v 12) (.c 1)) = ρ 12 + 1 := i64_inc (x := ρ 12) b12.1 (by omega)
      rw [hi] at h20
      change (if ρ 12 < 64 * 6 then wds 6 (addM (val [ρ 0, ρ 1, ρ 2, ρ 3, ρ 4, ρ 5]) (val [ρ 0, ρ 1, ρ 2, ρ 3, ρ 4, ρ 5]) (val [ρ 6, ρ 7, ρ 8, ρ 9, ρ 10, ρ 11])) ++ [ρ 6, ρ 7, ρ 8, ρ 9, ρ 10, ρ 11] ++ [ρ 12 + 1, 1] else _) = _
      rw [if_pos (by omega), ← g14, ← h20]
      rfl
    · simp only [satTr_cons, satTr_nil, sv_lss, sv_leq, sv_gtr, sv_geq, sv_eql, sv_neq, sv_not, sv_beq, sv_pick, sv_add, sv_sub, sv_fn, sv_eqs, E.den, List.map, K.holds] at hs
      simp only [asrOK_cons, asrOK_nil, if_true, if_false, Bool.false_eq_true, E.den] at ha
      obtain ⟨⟨h13, k13⟩, _⟩ := hs
      obtain ⟨a0, _⟩ := ha
      change (if ρ 12 < 64 * 6 then _ else [ρ 0, ρ 1, ρ 2, ρ 3, ρ 4, ρ 5, ρ 6, ρ 7, ρ 8, ρ 9, ρ 10, ρ 11, ρ 12] ++ [0]) = _
      rw [if_neg (by omega)]
      rfl
  · intro l hl ρ hk hs ha
    have hn : form_shifted.kin.length = 13 := rfl
    have hr : row ρ 13 = [ρ 0, ρ 1, ρ 2, ρ 3, ρ 4, ρ 5, ρ 6, ρ 7, ρ 8, ρ 9, ρ 10, ρ 11, ρ 12] := rfl
    rw [hn, hr] at hk ⊢
    simp only [su_shifted, form_shifted, Summ.inKinds, List.flatMap_cons, List.flatMap_nil, List.replicate, List.cons_append, List.nil_append, List.append_nil, holdsAll, K.holds] at hk
    obtain ⟨b0, b1, b2, b3, b4, b5, b6, b7, b8, b9, b10, b11, b12, _⟩ := hk
    simp only [t_shifted2, CT.leaves, List.cons_append, List.nil_append, List.mem_cons, List.not_mem_nil, or_false] at hl
    subst hl
    simp only [satTr_cons, satTr_nil, sv_lss, sv_leq, sv_gtr, sv_geq, sv_eql, sv_neq, sv_not, sv_beq, sv_pick, sv_add, sv_sub, sv_fn, sv_eqs, E.den, List.map, K.holds] at hs
    simp only [asrOK_cons, asrOK_nil, if_true, if_false, Bool.false_eq_true, E.den] at ha
    clear hs
    clear ha
    rfl
  · intro ins hins
    exact shift_done (n := 6) (by decide) ins (by have := holdsAll_length hins; exact this)

/-! ### isZero -/
def su_isZero : Summ := ⟨[.ptr 6], none, [.sc .bool]⟩
def t_isZero0 : CT := .leaf ⟨[(11, .bool, .cmp .eql (.v 10) (.c 0)),
    (10, .i .u64, .bin .or .u64 (.v 9) (.v 0)),
    (9, .i .u64, .bin .or .u64 (.v 8) (.v 1)),
    (8, .i .u64, .bin .or .u64 (.v 7) (.v 2)),
    (7, .i .u64, .bin .or .u64 (.v 6) (.v 3)),
    (6, .i .u64, .bin .or .u64 (.v 5) (.v 4))],
    [], [.v 11]⟩
theorem chk_isZero : checkFn Try.prog [] su_isZero 400 Try.f25 (fun _ => t_isZero0) = true := by kernel_rfl
theorem ok_isZero : SummOK Try.prog 25 su_isZero (Phi 25) := by
  refine summ_fn (Φ := Phi) 400 (fun _ => t_isZero0) Try.func25 tbl_nil chk_isZero ?_
  intro al hal l hl ρ hk hs ha
  have hn : su_isZero.inKinds.length = 6 := rfl
  have hr : row ρ 6 = [ρ 0, ρ 1, ρ 2, ρ 3, ρ 4, ρ 5] := rfl
  rw [hn, hr] at hk ⊢
  simp only [su_isZero, Summ.inKinds, List.flatMap_cons, List.flatMap_nil, List.replicate, List.cons_append, List.nil_append, List.append_nil, holdsAll, K.holds] at hk
  obtain ⟨b0, b1, b2, b3, b4, b5, _⟩ := hk
  simp only [t_isZero0, CT.leaves, List.cons_append, List.nil_append, List.mem_cons, List.not_mem_nil, or_false] at hl
  subst hl
  simp only [satTr_cons, satTr_nil, sv_lss, sv_leq, sv_gtr, sv_geq, sv_eql, sv_neq, sv_not, sv_beq, sv_pick, sv_add, sv_sub, sv_fn, sv_eqs, E.den, List.map, K.holds] at hs
  simp only [asrOK_cons, asrOK_nil, if_true, if_false, Bool.false_eq_true, E.den] at ha
  obtain ⟨⟨h11, k11⟩, ⟨h10, k10⟩, ⟨h9, k9⟩, ⟨h8, k8⟩, ⟨h7, k7⟩, ⟨h6, k6⟩, _⟩ := hs
  clear ha
  have z6 : ρ 6 = 0 ↔ ρ 5 = 0 ∧ ρ 4 = 0 := or_zero b5 b4 h6
  have z7 : ρ 7 = 0 ↔ ρ 6 = 0 ∧ ρ 3 = 0 := or_zero k6 b3 h7
  have z8 : ρ 8 = 0 ↔ ρ 7 = 0 ∧ ρ 2 = 0 := or_zero k7 b2 h8
  have z9 : ρ 9 = 0 ↔ ρ 8 = 0 ∧ ρ 1 = 0 := or_zero k8 b1 h9
  have z10 : ρ 10 = 0 ↔ ρ 9 = 0 ∧ ρ 0 = 0 := or_zero k9 b0 h10
  refine dec_one (p := val [ρ 0, ρ 1, ρ 2, ρ 3, ρ 4, ρ 5] = 0) (z := ρ 11) ?_
  simp only [val, q, List.cons.injEq, and_true]
  clear h6 h7 h8 h9 h10
  omega

/-! ### isOne -/
def su_isOne : Summ := ⟨[.ptr 6], none, [.sc .bool]⟩
def t_isOne0 : CT := .leaf ⟨[(17, .bool, .cmp .eql (.v 16) (.c 0)),
    (16, .i .u64, .bin .or .u64 (.v 14) (.v 15)),
    (15, .i .u64, .bin .xor .u64 (.v 0) (.c 8505329371266088957)),
    (14, .i .u64, .bin .or .u64 (.v 12) (.v 13)),
    (13, .i .u64, .bin .xor .u64 (.v 1) (.c 17002214543764226050)),
    (12, .i .u64, .bin .or .u64 (.v 10) (.v 11)),
    (11, .i .u64, .bin .xor .u64 (.v 2) (.c 6865905132761471162)),
    (10, .i .u64, .bin .or .u64 (.v 8) (.v 9)),
    (9, .i .u64, .bin .xor .u64 (.v 3) (.c 8632934651105793861)),
    (8, .i .u64, .bin .or .u64 (.v 6) (.v 7)),
    (7, .i .u64, .bin .xor .u64 (.v 4) (.c 6631298214892334189)),
    (6, .i .u64, .bin .xor .u64 (.v 5) (.c 1582556514881692819))],
    [], [.v 17]⟩
theorem chk_isOne : checkFn Try.prog [] su_isOne 400 Try.f26 (fun _ => t_isOne0) = true := by kernel_rfl
theorem ok_isOne : SummOK Try.prog 26 su_isOne (Phi 26) := by
  refine summ_fn (Φ := Phi) 400 (fun _ => t_isOne0) Try.func26 tbl_nil chk_isOne ?_
  intro al hal l hl ρ hk hs ha
  have hn : su_isOne.inKinds.length = 6 := rfl
  have hr : row ρ 6 = [ρ 0, ρ 1, ρ 2, ρ 3, ρ 4, ρ 5] := rfl
  rw [hn, hr] at hk ⊢
  simp only [su_isOne, Summ.inKinds, List.flatMap_cons, List.flatMap_nil, List.replicate, List.cons_append, List.nil_append, List.append_nil, holdsAll, K.holds] at hk
  obtain ⟨b0, b1, b2, b3, b4, b5, _⟩ := hk
  simp only [t_isOne0, CT.leaves, List.cons_append, List.nil_append, List.mem_cons, List.not_mem_nil, or_false] at hl
  subst hl
  simp only [satTr_cons, satTr_nil, sv_lss, sv_leq, sv_gtr, sv_geq, sv_eql, sv_neq, sv_not, sv_beq, sv_pick, sv_add, sv_sub, sv_fn, sv_eqs, E.den, List.map, K.holds] at hs
  simp only [asrOK_cons, asrOK_nil, if_true, if_false, Bool.false_eq_true, E.den] at ha
  obtain ⟨⟨h17, k17⟩, ⟨h16, k16⟩, ⟨h15, k15⟩, ⟨h14, k14⟩, ⟨h13, k13⟩, ⟨h12, k12⟩, ⟨h11, k11⟩, ⟨h10, k10⟩, ⟨h9, k9⟩, ⟨h8, k8⟩, ⟨h7, k7⟩, ⟨h6, k6⟩, _⟩ := hs
  clear ha
  have z6 : ρ 6 = 0 ↔ ρ 5 = 1582556514881692819 := xor_zero b5 (by decide) h6
  have z7 : ρ 7 = 0 ↔ ρ 4 = 6631298214892334189 := xor_zero b4 (by decide) h7
  have z8 : ρ 8 = 0 ↔ ρ 6 = 0 ∧ ρ 7 = 0 := or_zero k6 k7 h8
  have z9 : ρ 9 = 0 ↔ ρ 3 = 8632934651105793861 := xor_zero b3 (by decide) h9
  have z10 : ρ 10 = 0 ↔ ρ 8 = 0 ∧ ρ 9 = 0 := or_zero k8 k9 h10
  have z11 : ρ 11 = 0 ↔ ρ 2 = 6865905132761471162 := xor_zero b2 (by decide) h11
  have z12 : ρ 12 = 0 ↔ ρ 10 = 0 ∧ ρ 11 = 0 := or_zero k10 k11 h12
  have z13 : ρ 13 = 0 ↔ ρ 1 = 17002214543764226050 := xor_zero b1 (by decide) h13
  have z14 : ρ 14 = 0 ↔ ρ 12 = 0 ∧ ρ 13 = 0 := or_zero k12 k13 h14
  have z15 : ρ 15 = 0 ↔ ρ 0 = 8505329371266088957 := xor_zero b0 (by decide) h15
  have z16 : ρ 16 = 0 ↔ ρ 14 = 0 ∧ ρ 15 = 0 := or_zero k14 k15 h16
  refine dec_one (p := [ρ 0, ρ 1, ρ 2, ρ 3, ρ 4, ρ 5] = wds 6 r) (z := ρ 17) ?_
  have hw : wds 6 r = [8505329371266088957, 17002214543764226050, 6865905132761471162, 8632934651105793861, 6631298214892334189, 1582556514881692819] := by kernel_rfl
  rw [hw]
  simp only [List.cons.injEq, and_true]
  have key : ρ 16 = 0 ↔ (ρ 0 = 8505329371266088957 ∧ ρ 1 = 17002214543764226050 ∧ ρ 2 = 6865905132761471162 ∧ ρ 3 = 8632934651105793861 ∧ ρ 4 = 6631298214892334189 ∧ ρ 5 = 1582556514881692819) := by
    simp only [z15, z13, z11, z9, z7, z6, z16, z14, z12, z10, z8]
    exact ⟨fun h => ⟨h.2, h.1.2, h.1.1.2, h.1.1.1.2, h.1.1.1.1.2, h.1.1.1.1.1⟩, fun h => ⟨⟨⟨⟨⟨h.2.2.2.2.2, h.2.2.2.2.1⟩, h.2.2.2.1⟩, h.2.2.1⟩, h.2.1⟩, h.1⟩⟩
  rw [← key]
  exact h17

/-! ### iIsZero -/
def su_iIsZero : Summ := ⟨[.agg 6], none, [.sc .bool]⟩
def t_iIsZero0 : CT := .leaf ⟨[(6, .bool, .fn 25 [.v 0, .v 1, .v 2, .v 3, .v 4, .v 5] 0)],
    [], [.v 6]⟩
theorem chk_iIsZero : checkFn Try.prog [(25, su_isZero)] su_iIsZero 400 Try.f11 (fun _ => t_iIsZero0) = true := by kernel_rfl
theorem ok_iIsZero : SummOK Try.prog 11 su_iIsZero (Phi 11) := by
  refine summ_fn (Φ := Phi) 400 (fun _ => t_iIsZero0) Try.func11 (tbl_cons ok_isZero tbl_nil) chk_iIsZero ?_
  intro al hal l hl ρ hk hs ha
  have hn : su_iIsZero.inKinds.length = 6 := rfl
  have hr : row ρ 6 = [ρ 0, ρ 1, ρ 2, ρ 3, ρ 4, ρ 5] := rfl
  rw [hn, hr] at hk ⊢
  simp only [su_iIsZero, Summ.inKinds, List.flatMap_cons, List.flatMap_nil, List.replicate, List.cons_append, List.nil_append, List.append_nil, holdsAll, K.holds] at hk
  obtain ⟨b0, b1, b2, b3, b4, b5, _⟩ := hk
  simp only [t_iIsZero0, CT.leaves, List.cons_append, List.nil_append, List.mem_cons, List.not_mem_nil, or_false] at hl
  subst hl
  simp only [satTr_cons, satTr_nil, sv_lss, sv_leq, sv_gtr, sv_geq, sv_eql, sv_neq, sv_not, sv_beq, sv_pick, sv_add, sv_sub, sv_fn, sv_eqs, E.den, List.map, K.holds] at hs
  simp only [asrOK_cons, asrOK_nil, if_true, if_false, Bool.false_eq_true, E.den] at ha
  obtain ⟨⟨h6, k6⟩, _⟩ := hs
  clear ha
  have e6 : ρ 6 = b2i (decide (val [ρ 0, ρ 1, ρ 2, ρ 3, ρ 4, ρ 5] = 0)) := h6
  rw [st_dec] at e6
  exact congrArg (fun z => [z]) h6.symm

/-! ### iIsOne -/
def su_iIsOne : Summ := ⟨[.agg 6], none, [.sc .bool]⟩
def t_iIsOne0 : CT := .leaf ⟨[(6, .bool, .fn 26 [.v 0, .v 1, .v 2, .v 3, .v 4, .v 5] 0)],
    [], [.v 6]⟩
theorem chk_iIsOne : checkFn Try.prog [(26, su_isOne)] su_iIsOne 400 Try.f12 (fun _ => t_iIsOne0) = true := by kernel_rfl
theorem ok_iIsOne : SummOK Try.prog 12 su_iIsOne (Phi 12) := by
  refine summ_fn (Φ := Phi) 400 (fun _ => t_iIsOne0) Try.func12 (tbl_cons ok_isOne tbl_nil) chk_iIsOne ?_
  intro al hal l hl ρ hk hs ha
  have hn : su_iIsOne.inKinds.length = 6 := rfl
  have hr : row ρ 6 = [ρ 0, ρ 1, ρ 2, ρ 3, ρ 4, ρ 5] := rfl
  rw [hn, hr] at hk ⊢
  simp only [su_iIsOne, Summ.inKinds, List.flatMap_cons, List.flatMap_nil, List.replicate, List.cons_append, List.nil_append, List.append_nil, holdsAll, K.holds] at hk
  obtain ⟨b0, b1, b2, b3, b4, b5, _⟩ := hk
  simp only [t_iIsOne0, CT.leaves, List.cons_append, List.nil_append, List.mem_cons, List.not_mem_nil, or_false] at hl
  subst hl
  simp only [satTr_cons, satTr_nil, sv_lss, sv_leq, sv_gtr, sv_geq, sv_eql, sv_neq, sv_not, sv_beq, sv_pick, sv_add, sv_sub, sv_fn, sv_eqs, E.den, List.map, K.holds] at hs
  simp only [asrOK_cons, asrOK_nil, if_true, if_false, Bool.false_eq_true, E.den] at ha
  obtain ⟨⟨h6, k6⟩, _⟩ := hs
  clear ha
  have e6 : ρ 6 = b2i (decide ([ρ 0, ρ 1, ρ 2, ρ 3, ρ 4, ρ 5] = wds 6 r)) := h6
  rw [st_dec] at e6
  exact congrArg (fun z => [z]) h6.symm

/-! ### lIsZero -/
def su_lIsZero : Summ := ⟨[.agg 6], none, [.sc .bool]⟩
def t_lIsZero0 : CT := .node (.v 13)
  (.leaf ⟨[(13, .bool, .not (.v 12)),
    (12, .bool, .fn 9 [.v 0, .v 1, .v 2, .v 3, .v 4, .v 5, .v 6, .v 7, .v 8, .v 9, .v 10, .v 11] 0),
    (11, .i .u64, .fn 10 [] 5),
    (10, .i .u64, .fn 10 [] 4),
    (9, .i .u64, .fn 10 [] 3),
    (8, .i .u64, .fn 10 [] 2),
    (7, .i .u64, .fn 10 [] 1),
    (6, .i .u64, .fn 10 [] 0)],
    [(.v 13, true)], [.c 1]⟩)
  (.node (.v 16)
  (.leaf ⟨[(37, .bool, .beq (.v 17) (.v 36)),
    (36, .bool, .fn 13 [.v 0, .v 1, .v 2, .v 3, .v 4, .v 5, .v 30, .v 31, .v 32, .v 33, .v 34, .v 35] 0),
    (35, .i .u64, .fn 14 [.v 18, .v 19, .v 20, .v 21, .v 22, .v 23, .v 24, .v 25, .v 26, .v 27, .v 28, .v 29] 5),
    (34, .i .u64, .fn 14 [.v 18, .v 19, .v 20, .v 21, .v 22, .v 23, .v 24, .v 25, .v 26, .v 27, .v 28, .v 29] 4),
    (33, .i .u64, .fn 14 [.v 18, .v 19, .v 20, .v 21, .v 22, .v 23, .v 24, .v 25, .v 26, .v 27, .v 28, .v 29] 3),
    (32, .i .u64, .fn 14 [.v 18, .v 19, .v 20, .v 21, .v 22, .v 23, .v 24, .v 25, .v 26, .v 27, .v 28, .v 29] 2),
    (31, .i .u64, .fn 14 [.v 18, .v 19, .v 20, .v 21, .v 22, .v 23, .v 24, .v 25, .v 26, .v 27, .v 28, .v 29] 1),
    (30, .i .u64, .fn 14 [.v 18, .v 19, .v 20, .v 21, .v 22, .v 23, .v 24, .v 25, .v 26, .v 27, .v 28, .v 29] 0),
    (29, .i .u64, .fn 10 [] 5),
    (28, .i .u64, .fn 10 [] 4),
    (27, .i .u64, .fn 10 [] 3),
    (26, .i .u64, .fn 10 [] 2),
    (25, .i .u64, .fn 10 [] 1),
    (24, .i .u64, .fn 10 [] 0),
    (23, .i .u64, .fn 15 [.c 6] 5),
    (22, .i .u64, .fn 15 [.c 6] 4),
    (21, .i .u64, .fn 15 [.c 6] 3),
    (20, .i .u64, .fn 15 [.c 6] 2),
    (19, .i .u64, .fn 15 [.c 6] 1),
    (18, .i .u64, .fn 15 [.c 6] 0),
    (17, .bool, .fn 12 [.v 0, .v 1, .v 2, .v 3, .v 4, .v 5] 0),
    (16, .bool, .beq (.v 14) (.v 15)),
    (15, .bool, .eqs [.v 0, .v 1, .v 2, .v 3, .v 4, .v 5] [.c 0, .c 0, .c 0, .c 0, .c 0, .c 0]),
    (14, .bool, .fn 11 [.v 0, .v 1, .v 2, .v 3, .v 4, .v 5] 0),
    (13, .bool, .not (.v 12)),
    (12, .bool, .fn 9 [.v 0, .v 1, .v 2, .v 3, .v 4, .v 5, .v 6, .v 7, .v 8, .v 9, .v 10, .v 11] 0),
    (11, .i .u64, .fn 10 [] 5),
    (10, .i .u64, .fn 10 [] 4),
    (9, .i .u64, .fn 10 [] 3),
    (8, .i .u64, .fn 10 [] 2),
    (7, .i .u64, .fn 10 [] 1),
    (6, .i .u64, .fn 10 [] 0)],
    [(.v 16, true), (.v 13, false)], [.v 37]⟩)
  (.leaf ⟨[(16, .bool, .beq (.v 14) (.v 15)),
    (15, .bool, .eqs [.v 0, .v 1, .v 2, .v 3, .v 4, .v 5] [.c 0, .c 0, .c 0, .c 0, .c 0, .c 0]),
    (14, .bool, .fn 11 [.v 0, .v 1, .v 2, .v 3, .v 4, .v 5] 0),
    (13, .bool, .not (.v 12)),
    (12, .bool, .fn 9 [.v 0, .v 1, .v 2, .v 3, .v 4, .v 5, .v 6, .v 7, .v 8, .v 9, .v 10, .v 11] 0),
    (11, .i .u64, .fn 10 [] 5),
    (10, .i .u64, .fn 10 [] 4),
    (9, .i .u64, .fn 10 [] 3),
    (8, .i .u64, .fn 10 [] 2),
    (7, .i .u64, .fn 10 [] 1),
    (6, .i .u64, .fn 10 [] 0)],
    [(.v 16, false), (.v 13, false)], [.c 0]⟩))
theorem chk_lIsZero : checkFn Try.prog [(9, su_less), (10, su_prime), (11, su_iIsZero), (12, su_iIsOne), (13, su_same), (14, su_shifted), (15, su_oneW)] su_lIsZero 400 Try.f3 (fun _ => t_lIsZero0) = true := by kernel_rfl
theorem ok_lIsZero : SummOK Try.prog 3 su_lIsZero (Phi 3) := by
  refine summ_fn (Φ := Phi) 400 (fun _ => t_lIsZero0) Try.func3 (tbl_cons ok_less (tbl_cons ok_prime (tbl_cons ok_iIsZero (tbl_cons ok_iIsOne (tbl_cons ok_same (tbl_cons ok_shifted (tbl_cons ok_oneW tbl_nil))))))) chk_lIsZero ?_
  intro al hal l hl ρ hk hs ha
  have hn : su_lIsZero.inKinds.length = 6 := rfl
  have hr : row ρ 6 = [ρ 0, ρ 1, ρ 2, ρ 3, ρ 4, ρ 5] := rfl
  rw [hn, hr] at hk ⊢
  simp only [su_lIsZero, Summ.inKinds, List.flatMap_cons, List.flatMap_nil, List.replicate, List.cons_append, List.nil_append, List.append_nil, holdsAll, K.holds] at hk
  obtain ⟨b0, b1, b2, b3, b4, b5, _⟩ := hk
  simp only [t_lIsZero0, CT.leaves, List.cons_append, List.nil_append, List.mem_cons, List.not_mem_nil, or_false] at hl
  rcases hl with rfl | rfl | rfl
  · simp only [satTr_cons, satTr_nil, sv_lss, sv_leq, sv_gtr, sv_geq, sv_eql, sv_neq, sv_not, sv_beq, sv_pick, sv_add, sv_sub, sv_fn, sv_eqs, E.den, List.map, K.holds] at hs
    simp only [asrOK_cons, asrOK_nil, if_true, if_false, Bool.false_eq_true, E.den] at ha
    obtain ⟨⟨h13, k13⟩, ⟨h12, k12⟩, ⟨h11, k11⟩, ⟨h10, k10⟩, ⟨h9, k9⟩, ⟨h8, k8⟩, ⟨h7, k7⟩, ⟨h6, k6⟩, _⟩ := hs
    obtain ⟨a0, _⟩ := ha
    have g6 : [ρ 6, ρ 7, ρ 8, ρ 9, ρ 10, ρ 11] = wds 6 q := get6 rfl h6 h7 h8 h9 h10 h11
    have e12 : ρ 12 = b2i (decide (val [ρ 0, ρ 1, ρ 2, ρ 3, ρ 4, ρ 5] < val [ρ 6, ρ 7, ρ 8, ρ 9, ρ 10, ρ 11])) := h12
    rw [st_dec] at e12
    rfl
  · simp only [satTr_cons, satTr_nil, sv_lss, sv_leq, sv_gtr, sv_geq, sv_eql, sv_neq, sv_not, sv_beq, sv_pick, sv_add, sv_sub, sv_fn, sv_eqs, E.den, List.map, K.holds] at hs
    simp only [asrOK_cons, asrOK_nil, if_true, if_false, Bool.false_eq_true, E.den] at ha
    obtain ⟨⟨h37, k37⟩, ⟨h36, k36⟩, ⟨h35, k35⟩, ⟨h34, k34⟩, ⟨h33, k33⟩, ⟨h32, k32⟩, ⟨h31, k31⟩, ⟨h30, k30⟩, ⟨h29, k29⟩, ⟨h28, k28⟩, ⟨h27, k27⟩, ⟨h26, k26⟩, ⟨h25, k25⟩, ⟨h24, k24⟩, ⟨h23, k23⟩, ⟨h22, k22⟩, ⟨h21, k21⟩, ⟨h20, k20⟩, ⟨h19, k19⟩, ⟨h18, k18⟩, ⟨h17, k17⟩, ⟨h16, k16⟩, ⟨h15, k15⟩, ⟨h14, k14⟩, ⟨h13, k13⟩, ⟨h12, k12⟩, ⟨h11, k11⟩, ⟨h10, k10⟩, ⟨h9, k9⟩, ⟨h8, k8⟩, ⟨h7, k7⟩, ⟨h6, k6⟩, _⟩ := hs
    obtain ⟨a0, a1, _⟩ := ha
    have g6 : [ρ 6, ρ 7, ρ 8, ρ 9, ρ 10, ρ 11] = wds 6 q := get6 rfl h6 h7 h8 h9 h10 h11
    have e12 : ρ 12 = b2i (decide (val [ρ 0, ρ 1, ρ 2, ρ 3, ρ 4, ρ 5] < val [ρ 6, ρ 7, ρ 8, ρ 9, ρ 10, ρ 11])) := h12
    rw [st_dec] at e12
    have e14 : ρ 14 = b2i (decide (val [ρ 0, ρ 1, ρ 2, ρ 3, ρ 4, ρ 5] = 0)) := h14
    rw [st_dec] at e14
    have e17 : ρ 17 = b2i (decide ([ρ 0, ρ 1, ρ 2, ρ 3, ρ 4, ρ 5] = wds 6 r)) := h17
    rw [st_dec] at e17
    have g18 : [ρ 18, ρ 19, ρ 20, ρ 21, ρ 22, ρ 23] = wds 6 1 := get6 rfl h18 h19 h20 h21 h22 h23
    have g24 : [ρ 24, ρ 25, ρ 26, ρ 27, ρ 28, ρ 29] = wds 6 q := get6 rfl h24 h25 h26 h27 h28 h29
    have g30 : [ρ 30, ρ 31, ρ 32, ρ 33, ρ 34, ρ 35] = shiftF 6 [ρ 18, ρ 19, ρ 20, ρ 21, ρ 22, ρ 23, ρ 24, ρ 25, ρ 26, ρ 27, ρ 28, ρ 29] := get6 rfl h30 h31 h32 h33 h34 h35
    have e36 : ρ 36 = b2i (decide ([ρ 0, ρ 1, ρ 2, ρ 3, ρ 4, ρ 5] = [ρ 30, ρ 31, ρ 32, ρ 33, ρ 34, ρ 35])) := h36
    rw [st_dec] at e36
    have hz0 : val [0, 0, 0, 0, 0, 0] = 0 := by kernel_rfl
    have uz : u64s [0, 0, 0, 0, 0, 0] := (u64s_cons (by decide) (u64s_cons (by decide) (u64s_cons (by decide) (u64s_cons (by decide) (u64s_cons (by decide) (u64s_cons (by decide) u64s_nil))))))
    have hzz : [ρ 0, ρ 1, ρ 2, ρ 3, ρ 4, ρ 5] = [0, 0, 0, 0, 0, 0] ↔ val [ρ 0, ρ 1, ρ 2, ρ 3, ρ 4, ρ 5] = 0 := ⟨fun h => by rw [h, hz0], fun h => val_inj (u64s_cons b0 (u64s_cons b1 (u64s_cons b2 (u64s_cons b3 (u64s_cons b4 (u64s_cons b5 u64s_nil)))))) uz rfl (by rw [h, hz0])⟩
    rw [hzz] at h15
    have hcl : shiftF 6 (wds 6 1 ++ wds 6 q) = wds 6 r := by kernel_rfl
    have e3 : [ρ 18, ρ 19, ρ 20, ρ 21, ρ 22, ρ 23, ρ 24, ρ 25, ρ 26, ρ 27, ρ 28, ρ 29] = wds 6 1 ++ wds 6 q := by rw [← g18, ← g24]; rfl
    have hsh : [ρ 30, ρ 31, ρ 32, ρ 33, ρ 34, ρ 35] = wds 6 r := by rw [g30, e3, hcl]
    rw [hsh] at e36
    change [1] = [ρ 37]
    have hfin : ρ 37 = 1 := by
      clear g30 g18 g24 hsh e3 hcl
      by_cases hP : [ρ 0, ρ 1, ρ 2, ρ 3, ρ 4, ρ 5] = wds 6 r
      · simp only [hP, true_and, not_true_eq_false, false_and, or_false] at e17 e36; omega
      · simp only [hP, false_and, not_false_eq_true, true_and, false_or] at e17 e36; omega
    rw [hfin]
  · simp only [satTr_cons, satTr_nil, sv_lss, sv_leq, sv_gtr, sv_geq, sv_eql, sv_neq, sv_not, sv_beq, sv_pick, sv_add, sv_sub, sv_fn, sv_eqs, E.den, List.map, K.holds] at hs
    simp only [asrOK_cons, asrOK_nil, if_true, if_false, Bool.false_eq_true, E.den] at ha
    obtain ⟨⟨h16, k16⟩, ⟨h15, k15⟩, ⟨h14, k14⟩, ⟨h13, k13⟩, ⟨h12, k12⟩, ⟨h11, k11⟩, ⟨h10, k10⟩, ⟨h9, k9⟩, ⟨h8, k8⟩, ⟨h7, k7⟩, ⟨h6, k6⟩, _⟩ := hs
    obtain ⟨a0, a1, _⟩ := ha
    have g6 : [ρ 6, ρ 7, ρ 8, ρ 9, ρ 10, ρ 11] = wds 6 q := get6 rfl h6 h7 h8 h9 h10 h11
    have e12 : ρ 12 = b2i (decide (val [ρ 0, ρ 1, ρ 2, ρ 3, ρ 4, ρ 5] < val [ρ 6, ρ 7, ρ 8, ρ 9, ρ 10, ρ 11])) := h12
    rw [st_dec] at e12
    have e14 : ρ 14 = b2i (decide (val [ρ 0, ρ 1, ρ 2, ρ 3, ρ 4, ρ 5] = 0)) := h14
    rw [st_dec] at e14
    have hz0 : val [0, 0, 0, 0, 0, 0] = 0 := by kernel_rfl
    have uz : u64s [0, 0, 0, 0, 0, 0] := (u64s_cons (by decide) (u64s_cons (by decide) (u64s_cons (by decide) (u64s_cons (by decide) (u64s_cons (by decide) (u64s_cons (by decide) u64s_nil))))))
    have hzz : [ρ 0, ρ 1, ρ 2, ρ 3, ρ 4, ρ 5] = [0, 0, 0, 0, 0, 0] ↔ val [ρ 0, ρ 1, ρ 2, ρ 3, ρ 4, ρ 5] = 0 := ⟨fun h => by rw [h, hz0], fun h => val_inj (u64s_cons b0 (u64s_cons b1 (u64s_cons b2 (u64s_cons b3 (u64s_cons b4 (u64s_cons b5 u64s_nil)))))) uz rfl (by rw [h, hz0])⟩
    rw [hzz] at h15
    omega

end Go.Proofs.Ytifnkaddhaddmaa
