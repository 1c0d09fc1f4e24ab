/- The functions of the seat Ytifnkaddhaddmaa, each once: its ways through the text, and what it comes to in numbers. Written by a program (gen.py). -/
import Derived.Test.YtifnkaddhaddmaaSymU
import Derived.Test.YtifnkaddhaddmaaSymZ
import Derived.Test.YtifnkaddhaddmaaRows
set_option linter.unusedVariables false
set_option linter.unusedSimpArgs false
set_option maxRecDepth 4000
namespace Go.Proofs.Ytifnkaddhaddmaa
open Go.Sym

def q : Int := 4002409555221667393417789825735904156556882819939007885332058136124031650490837864442687629129015664037894272559787
def r : Int := 3380320199399472671518931668520476396067793891014375699959770179129436917079669831430077592723774664465579537268733

def Phi : Nat → List Int → List Int
  | 9 => lessF 6
  | 13 => sameF 6
  | 10 => primeF 6 q
  | 30 => plusF 6
  | 29 => lessenF 6
  | 27 => addWF 6
  | 17 => subWF 6
  | 15 => setF 6 1
  | 21 => timesF 6
  | 38 => setF 6 0
  | 44 => setF 6 r
  | 25 => zeroF
  | 26 => isF 6 r
  | 41 => smallF q
  | 31 => eaddF 6 q
  | 32 => esubF 6 q
  | 42 => edblF 6 q
  | 28 => enegF 6 q
  | 37 => setF 6 r
  | 33 => mul5F 6 q
  | 24 => setF 6 r
  | 11 => zeroF
  | 12 => isF 6 r
  | 18 => aaddF 6 q
  | 19 => asubF 6 q
  | 16 => anegF 6 q
  | 20 => mul5F 6 q
  | 4 => fun _ => [1]
  | 5 => fun _ => [1]
  | 6 => fun _ => [1]
  | 8 => fun _ => [1]
  | 3 => fun _ => [1]
  | 40 => add64F
  | 39 => sub64F
  | 14 => shiftF 6
  | _ => fun _ => []

theorem ok_add64 : SummOK Try.prog 40 addSub (Phi 40) := summ_add64 Try.func40 (by kernel_rfl) (by kernel_rfl) (by kernel_rfl) (by kernel_rfl)

theorem ok_sub64 : SummOK Try.prog 39 addSub (Phi 39) := summ_sub64 Try.func39 (by kernel_rfl) (by kernel_rfl) (by kernel_rfl) (by kernel_rfl)

/-! ### less -/
def su_less : Summ := ⟨[.slc 6, .slc 6], none, [.sc .bool]⟩
def t_less0 : CT := .node (.v 12)
  (.leaf ⟨[(13, .bool, .cmp .lss (.v 5) (.v 11)),
    (12, .bool, .cmp .neq (.v 5) (.v 11))],
    [(.v 12, true)], [.v 13]⟩)
  (.node (.v 13)
  (.leaf ⟨[(14, .bool, .cmp .lss (.v 4) (.v 10)),
    (13, .bool, .cmp .neq (.v 4) (.v 10)),
    (12, .bool, .cmp .neq (.v 5) (.v 11))],
    [(.v 13, true), (.v 12, false)], [.v 14]⟩)
  (.node (.v 14)
  (.leaf ⟨[(15, .bool, .cmp .lss (.v 3) (.v 9)),
    (14, .bool, .cmp .neq (.v 3) (.v 9)),
    (13, .bool, .cmp .neq (.v 4) (.v 10)),
    (12, .bool, .cmp .neq (.v 5) (.v 11))],
    [(.v 14, true), (.v 13, false), (.v 12, false)], [.v 15]⟩)
  (.node (.v 15)
  (.leaf ⟨[(16, .bool, .cmp .lss (.v 2) (.v 8)),
    (15, .bool, .cmp .neq (.v 2) (.v 8)),
    (14, .bool, .cmp .neq (.v 3) (.v 9)),
    (13, .bool, .cmp .neq (.v 4) (.v 10)),
    (12, .bool, .cmp .neq (.v 5) (.v 11))],
    [(.v 15, true), (.v 14, false), (.v 13, false), (.v 12, false)], [.v 16]⟩)
  (.node (.v 16)
  (.leaf ⟨[(17, .bool, .cmp .lss (.v 1) (.v 7)),
    (16, .bool, .cmp .neq (.v 1) (.v 7)),
    (15, .bool, .cmp .neq (.v 2) (.v 8)),
    (14, .bool, .cmp .neq (.v 3) (.v 9)),
    (13, .bool, .cmp .neq (.v 4) (.v 10)),
    (12, .bool, .cmp .neq (.v 5) (.v 11))],
    [(.v 16, true), (.v 15, false), (.v 14, false), (.v 13, false), (.v 12, false)], [.v 17]⟩)
  (.node (.v 17)
  (.leaf ⟨[(18, .bool, .cmp .lss (.v 0) (.v 6)),
    (17, .bool, .cmp .neq (.v 0) (.v 6)),
    (16, .bool, .cmp .neq (.v 1) (.v 7)),
    (15, .bool, .cmp .neq (.v 2) (.v 8)),
    (14, .bool, .cmp .neq (.v 3) (.v 9)),
    (13, .bool, .cmp .neq (.v 4) (.v 10)),
    (12, .bool, .cmp .neq (.v 5) (.v 11))],
    [(.v 17, true), (.v 16, false), (.v 15, false), (.v 14, false), (.v 13, false), (.v 12, false)], [.v 18]⟩)
  (.leaf ⟨[(17, .bool, .cmp .neq (.v 0) (.v 6)),
    (16, .bool, .cmp .neq (.v 1) (.v 7)),
    (15, .bool, .cmp .neq (.v 2) (.v 8)),
    (14, .bool, .cmp .neq (.v 3) (.v 9)),
    (13, .bool, .cmp .neq (.v 4) (.v 10)),
    (12, .bool, .cmp .neq (.v 5) (.v 11))],
    [(.v 17, false), (.v 16, false), (.v 15, false), (.v 14, false), (.v 13, false), (.v 12, false)], [.c 0]⟩))))))
theorem chk_less : checkFn Try.prog [] su_less 400 Try.f9 (fun _ => t_less0) = true := by kernel_rfl
theorem ok_less : SummOK Try.prog 9 su_less (Phi 9) := by
  refine summ_fn (Φ := Phi) 400 (fun _ => t_less0) Try.func9 tbl_nil chk_less ?_
  intro al hal l hl ρ hk hs ha
  have hn : su_less.inKinds.length = 12 := rfl
  have hr : row ρ 12 = [ρ 0, ρ 1, ρ 2, ρ 3, ρ 4, ρ 5, ρ 6, ρ 7, ρ 8, ρ 9, ρ 10, ρ 11] := rfl
  rw [hn, hr] at hk ⊢
  simp only [su_less, Summ.inKinds, List.flatMap_cons, List.flatMap_nil, List.replicate, List.cons_append, List.nil_append, List.append_nil, holdsAll, K.holds] at hk
  obtain ⟨b0, b1, b2, b3, b4, b5, b6, b7, b8, b9, b10, b11, _⟩ := hk
  simp only [t_less0, CT.leaves, List.cons_append, List.nil_append, List.mem_cons, List.not_mem_nil, or_false] at hl
  rcases hl with rfl | rfl | rfl | rfl | rfl | rfl | rfl
  · simp only [satTr_cons, satTr_nil, sv_lss, sv_leq, sv_gtr, sv_geq, sv_eql, sv_neq, sv_not, sv_beq, sv_pick, sv_add, sv_sub, sv_fn, sv_eqs, E.den, List.map, K.holds] at hs
    simp only [asrOK_cons, asrOK_nil, if_true, if_false, Bool.false_eq_true, E.den] at ha
    obtain ⟨⟨h13, k13⟩, ⟨h12, k12⟩, _⟩ := hs
    obtain ⟨a0, _⟩ := ha
    refine dec_one (p := val [ρ 0, ρ 1, ρ 2, ρ 3, ρ 4, ρ 5] < val [ρ 6, ρ 7, ρ 8, ρ 9, ρ 10, ρ 11]) (z := ρ 13) ?_
    simp only [val, q, List.cons.injEq, and_true]
    omega
  · simp only [satTr_cons, satTr_nil, sv_lss, sv_leq, sv_gtr, sv_geq, sv_eql, sv_neq, sv_not, sv_beq, sv_pick, sv_add, sv_sub, sv_fn, sv_eqs, E.den, List.map, K.holds] at hs
    simp only [asrOK_cons, asrOK_nil, if_true, if_false, Bool.false_eq_true, E.den] at ha
    obtain ⟨⟨h14, k14⟩, ⟨h13, k13⟩, ⟨h12, k12⟩, _⟩ := hs
    obtain ⟨a0, a1, _⟩ := ha
    refine dec_one (p := val [ρ 0, ρ 1, ρ 2, ρ 3, ρ 4, ρ 5] < val [ρ 6, ρ 7, ρ 8, ρ 9, ρ 10, ρ 11]) (z := ρ 14) ?_
    simp only [val, q, List.cons.injEq, and_true]
    omega
  · simp only [satTr_cons, satTr_nil, sv_lss, sv_leq, sv_gtr, sv_geq, sv_eql, sv_neq, sv_not, sv_beq, sv_pick, sv_add, sv_sub, sv_fn, sv_eqs, E.den, List.map, K.holds] at hs
    simp only [asrOK_cons, asrOK_nil, if_true, if_false, Bool.false_eq_true, E.den] at ha
    obtain ⟨⟨h15, k15⟩, ⟨h14, k14⟩, ⟨h13, k13⟩, ⟨h12, k12⟩, _⟩ := hs
    obtain ⟨a0, a1, a2, _⟩ := ha
    refine dec_one (p := val [ρ 0, ρ 1, ρ 2, ρ 3, ρ 4, ρ 5] < val [ρ 6, ρ 7, ρ 8, ρ 9, ρ 10, ρ 11]) (z := ρ 15) ?_
    simp only [val, q, List.cons.injEq, and_true]
    omega
  · simp only [satTr_cons, satTr_nil, sv_lss, sv_leq, sv_gtr, sv_geq, sv_eql, sv_neq, sv_not, sv_beq, sv_pick, sv_add, sv_sub, sv_fn, sv_eqs, E.den, List.map, K.holds] at hs
    simp only [asrOK_cons, asrOK_nil, if_true, if_false, Bool.false_eq_true, E.den] at ha
    obtain ⟨⟨h16, k16⟩, ⟨h15, k15⟩, ⟨h14, k14⟩, ⟨h13, k13⟩, ⟨h12, k12⟩, _⟩ := hs
    obtain ⟨a0, a1, a2, a3, _⟩ := ha
    refine dec_one (p := val [ρ 0, ρ 1, ρ 2, ρ 3, ρ 4, ρ 5] < val [ρ 6, ρ 7, ρ 8, ρ 9, ρ 10, ρ 11]) (z := ρ 16) ?_
    simp only [val, q, List.cons.injEq, and_true]
    omega
  · simp only [satTr_cons, satTr_nil, sv_lss, sv_leq, sv_gtr, sv_geq, sv_eql, sv_neq, sv_not, sv_beq, sv_pick, sv_add, sv_sub, sv_fn, sv_eqs, E.den, List.map, K.holds] at hs
    simp only [asrOK_cons, asrOK_nil, if_true, if_false, Bool.false_eq_true, E.den] at ha
    obtain ⟨⟨h17, k17⟩, ⟨h16, k16⟩, ⟨h15, k15⟩, ⟨h14, k14⟩, ⟨h13, k13⟩, ⟨h12, k12⟩, _⟩ := hs
    obtain ⟨a0, a1, a2, a3, a4, _⟩ := ha
    refine dec_one (p := val [ρ 0, ρ 1, ρ 2, ρ 3, ρ 4, ρ 5] < val [ρ 6, ρ 7, ρ 8, ρ 9, ρ 10, ρ 11]) (z := ρ 17) ?_
    simp only [val, q, List.cons.injEq, and_true]
    omega
  · simp only [satTr_cons, satTr_nil, sv_lss, sv_leq, sv_gtr, sv_geq, sv_eql, sv_neq, sv_not, sv_beq, sv_pick, sv_add, sv_sub, sv_fn, sv_eqs, E.den, List.map, K.holds] at hs
    simp only [asrOK_cons, asrOK_nil, if_true, if_false, Bool.false_eq_true, E.den] at ha
    obtain ⟨⟨h18, k18⟩, ⟨h17, k17⟩, ⟨h16, k16⟩, ⟨h15, k15⟩, ⟨h14, k14⟩, ⟨h13, k13⟩, ⟨h12, k12⟩, _⟩ := hs
    obtain ⟨a0, a1, a2, a3, a4, a5, _⟩ := ha
    refine dec_one (p := val [ρ 0, ρ 1, ρ 2, ρ 3, ρ 4, ρ 5] < val [ρ 6, ρ 7, ρ 8, ρ 9, ρ 10, ρ 11]) (z := ρ 18) ?_
    simp only [val, q, List.cons.injEq, and_true]
    omega
  · simp only [satTr_cons, satTr_nil, sv_lss, sv_leq, sv_gtr, sv_geq, sv_eql, sv_neq, sv_not, sv_beq, sv_pick, sv_add, sv_sub, sv_fn, sv_eqs, E.den, List.map, K.holds] at hs
    simp only [asrOK_cons, asrOK_nil, if_true, if_false, Bool.false_eq_true, E.den] at ha
    obtain ⟨⟨h17, k17⟩, ⟨h16, k16⟩, ⟨h15, k15⟩, ⟨h14, k14⟩, ⟨h13, k13⟩, ⟨h12, k12⟩, _⟩ := hs
    obtain ⟨a0, a1, a2, a3, a4, a5, _⟩ := ha
    refine dec_one (p := val [ρ 0, ρ 1, ρ 2, ρ 3, ρ 4, ρ 5] < val [ρ 6, ρ 7, ρ 8, ρ 9, ρ 10, ρ 11]) (z := 0) ?_
    simp only [val, q, List.cons.injEq, and_true]
    omega

/-! ### same -/
def su_same : Summ := ⟨[.slc 6, .slc 6], none, [.sc .bool]⟩
def t_same0 : CT := .node (.v 12)
  (.leaf ⟨[(12, .bool, .cmp .neq (.v 0) (.v 6))],
    [(.v 12, true)], [.c 0]⟩)
  (.node (.v 13)
  (.leaf ⟨[(13, .bool, .cmp .neq (.v 1) (.v 7)),
    (12, .bool, .cmp .neq (.v 0) (.v 6))],
    [(.v 13, true), (.v 12, false)], [.c 0]⟩)
  (.node (.v 14)
  (.leaf ⟨[(14, .bool, .cmp .neq (.v 2) (.v 8)),
    (13, .bool, .cmp .neq (.v 1) (.v 7)),
    (12, .bool, .cmp .neq (.v 0) (.v 6))],
    [(.v 14, true), (.v 13, false), (.v 12, false)], [.c 0]⟩)
  (.node (.v 15)
  (.leaf ⟨[(15, .bool, .cmp .neq (.v 3) (.v 9)),
    (14, .bool, .cmp .neq (.v 2) (.v 8)),
    (13, .bool, .cmp .neq (.v 1) (.v 7)),
    (12, .bool, .cmp .neq (.v 0) (.v 6))],
    [(.v 15, true), (.v 14, false), (.v 13, false), (.v 12, false)], [.c 0]⟩)
  (.node (.v 16)
  (.leaf ⟨[(16, .bool, .cmp .neq (.v 4) (.v 10)),
    (15, .bool, .cmp .neq (.v 3) (.v 9)),
    (14, .bool, .cmp .neq (.v 2) (.v 8)),
    (13, .bool, .cmp .neq (.v 1) (.v 7)),
    (12, .bool, .cmp .neq (.v 0) (.v 6))],
    [(.v 16, true), (.v 15, false), (.v 14, false), (.v 13, false), (.v 12, false)], [.c 0]⟩)
  (.node (.v 17)
  (.leaf ⟨[(17, .bool, .cmp .neq (.v 5) (.v 11)),
    (16, .bool, .cmp .neq (.v 4) (.v 10)),
    (15, .bool, .cmp .neq (.v 3) (.v 9)),
    (14, .bool, .cmp .neq (.v 2) (.v 8)),
    (13, .bool, .cmp .neq (.v 1) (.v 7)),
    (12, .bool, .cmp .neq (.v 0) (.v 6))],
    [(.v 17, true), (.v 16, false), (.v 15, false), (.v 14, false), (.v 13, false), (.v 12, false)], [.c 0]⟩)
  (.leaf ⟨[(17, .bool, .cmp .neq (.v 5) (.v 11)),
    (16, .bool, .cmp .neq (.v 4) (.v 10)),
    (15, .bool, .cmp .neq (.v 3) (.v 9)),
    (14, .bool, .cmp .neq (.v 2) (.v 8)),
    (13, .bool, .cmp .neq (.v 1) (.v 7)),
    (12, .bool, .cmp .neq (.v 0) (.v 6))],
    [(.v 17, false), (.v 16, false), (.v 15, false), (.v 14, false), (.v 13, false), (.v 12, false)], [.c 1]⟩))))))
theorem chk_same : checkFn Try.prog [] su_same 400 Try.f13 (fun _ => t_same0) = true := by kernel_rfl
theorem ok_same : SummOK Try.prog 13 su_same (Phi 13) := by
  refine summ_fn (Φ := Phi) 400 (fun _ => t_same0) Try.func13 tbl_nil chk_same ?_
  intro al hal l hl ρ hk hs ha
  have hn : su_same.inKinds.length = 12 := rfl
  have hr : row ρ 12 = [ρ 0, ρ 1, ρ 2, ρ 3, ρ 4, ρ 5, ρ 6, ρ 7, ρ 8, ρ 9, ρ 10, ρ 11] := rfl
  rw [hn, hr] at hk ⊢
  simp only [su_same, Summ.inKinds, List.flatMap_cons, List.flatMap_nil, List.replicate, List.cons_append, List.nil_append, List.append_nil, holdsAll, K.holds] at hk
  obtain ⟨b0, b1, b2, b3, b4, b5, b6, b7, b8, b9, b10, b11, _⟩ := hk
  simp only [t_same0, CT.leaves, List.cons_append, List.nil_append, List.mem_cons, List.not_mem_nil, or_false] at hl
  rcases hl with rfl | rfl | rfl | rfl | rfl | rfl | rfl
  · simp only [satTr_cons, satTr_nil, sv_lss, sv_leq, sv_gtr, sv_geq, sv_eql, sv_neq, sv_not, sv_beq, sv_pick, sv_add, sv_sub, sv_fn, sv_eqs, E.den, List.map, K.holds] at hs
    simp only [asrOK_cons, asrOK_nil, if_true, if_false, Bool.false_eq_true, E.den] at ha
    obtain ⟨⟨h12, k12⟩, _⟩ := hs
    obtain ⟨a0, _⟩ := ha
    refine dec_one (p := [ρ 0, ρ 1, ρ 2, ρ 3, ρ 4, ρ 5] = [ρ 6, ρ 7, ρ 8, ρ 9, ρ 10, ρ 11]) (z := 0) ?_
    simp only [val, q, List.cons.injEq, and_true]
    omega
  · simp only [satTr_cons, satTr_nil, sv_lss, sv_leq, sv_gtr, sv_geq, sv_eql, sv_neq, sv_not, sv_beq, sv_pick, sv_add, sv_sub, sv_fn, sv_eqs, E.den, List.map, K.holds] at hs
    simp only [asrOK_cons, asrOK_nil, if_true, if_false, Bool.false_eq_true, E.den] at ha
    obtain ⟨⟨h13, k13⟩, ⟨h12, k12⟩, _⟩ := hs
    obtain ⟨a0, a1, _⟩ := ha
    refine dec_one (p := [ρ 0, ρ 1, ρ 2, ρ 3, ρ 4, ρ 5] = [ρ 6, ρ 7, ρ 8, ρ 9, ρ 10, ρ 11]) (z := 0) ?_
    simp only [val, q, List.cons.injEq, and_true]
    omega
  · simp only [satTr_cons, satTr_nil, sv_lss, sv_leq, sv_gtr, sv_geq, sv_eql, sv_neq, sv_not, sv_beq, sv_pick, sv_add, sv_sub, sv_fn, sv_eqs, E.den, List.map, K.holds] at hs
    simp only [asrOK_cons, asrOK_nil, if_true, if_false, Bool.false_eq_true, E.den] at ha
    obtain ⟨⟨h14, k14⟩, ⟨h13, k13⟩, ⟨h12, k12⟩, _⟩ := hs
    obtain ⟨a0, a1, a2, _⟩ := ha
    refine dec_one (p := [ρ 0, ρ 1, ρ 2, ρ 3, ρ 4, ρ 5] = [ρ 6, ρ 7, ρ 8, ρ 9, ρ 10, ρ 11]) (z := 0) ?_
    simp only [val, q, List.cons.injEq, and_true]
    omega
  · simp only [satTr_cons, satTr_nil, sv_lss, sv_leq, sv_gtr, sv_geq, sv_eql, sv_neq, sv_not, sv_beq, sv_pick, sv_add, sv_sub, sv_fn, sv_eqs, E.den, List.map, K.holds] at hs
    simp only [asrOK_cons, asrOK_nil, if_true, if_false, Bool.false_eq_true, E.den] at ha
    obtain ⟨⟨h15, k15⟩, ⟨h14, k14⟩, ⟨h13, k13⟩, ⟨h12, k12⟩, _⟩ := hs
    obtain ⟨a0, a1, a2, a3, _⟩ := ha
    refine dec_one (p := [ρ 0, ρ 1, ρ 2, ρ 3, ρ 4, ρ 5] = [ρ 6, ρ 7, ρ 8, ρ 9, ρ 10, ρ 11]) (z := 0) ?_
    simp only [val, q, List.cons.injEq, and_true]
    omega
  · simp only [satTr_cons, satTr_nil, sv_lss, sv_leq, sv_gtr, sv_geq, sv_eql, sv_neq, sv_not, sv_beq, sv_pick, sv_add, sv_sub, sv_fn, sv_eqs, E.den, List.map, K.holds] at hs
    simp only [asrOK_cons, asrOK_nil, if_true, if_false, Bool.false_eq_true, E.den] at ha
    obtain ⟨⟨h16, k16⟩, ⟨h15, k15⟩, ⟨h14, k14⟩, ⟨h13, k13⟩, ⟨h12, k12⟩, _⟩ := hs
    obtain ⟨a0, a1, a2, a3, a4, _⟩ := ha
    refine dec_one (p := [ρ 0, ρ 1, ρ 2, ρ 3, ρ 4, ρ 5] = [ρ 6, ρ 7, ρ 8, ρ 9, ρ 10, ρ 11]) (z := 0) ?_
    simp only [val, q, List.cons.injEq, and_true]
    omega
  · simp only [satTr_cons, satTr_nil, sv_lss, sv_leq, sv_gtr, sv_geq, sv_eql, sv_neq, sv_not, sv_beq, sv_pick, sv_add, sv_sub, sv_fn, sv_eqs, E.den, List.map, K.holds] at hs
    simp only [asrOK_cons, asrOK_nil, if_true, if_false, Bool.false_eq_true, E.den] at ha
    obtain ⟨⟨h17, k17⟩, ⟨h16, k16⟩, ⟨h15, k15⟩, ⟨h14, k14⟩, ⟨h13, k13⟩, ⟨h12, k12⟩, _⟩ := hs
    obtain ⟨a0, a1, a2, a3, a4, a5, _⟩ := ha
    refine dec_one (p := [ρ 0, ρ 1, ρ 2, ρ 3, ρ 4, ρ 5] = [ρ 6, ρ 7, ρ 8, ρ 9, ρ 10, ρ 11]) (z := 0) ?_
    simp only [val, q, List.cons.injEq, and_true]
    omega
  · simp only [satTr_cons, satTr_nil, sv_lss, sv_leq, sv_gtr, sv_geq, sv_eql, sv_neq, sv_not, sv_beq, sv_pick, sv_add, sv_sub, sv_fn, sv_eqs, E.den, List.map, K.holds] at hs
    simp only [asrOK_cons, asrOK_nil, if_true, if_false, Bool.false_eq_true, E.den] at ha
    obtain ⟨⟨h17, k17⟩, ⟨h16, k16⟩, ⟨h15, k15⟩, ⟨h14, k14⟩, ⟨h13, k13⟩, ⟨h12, k12⟩, _⟩ := hs
    obtain ⟨a0, a1, a2, a3, a4, a5, _⟩ := ha
    refine dec_one (p := [ρ 0, ρ 1, ρ 2, ρ 3, ρ 4, ρ 5] = [ρ 6, ρ 7, ρ 8, ρ 9, ρ 10, ρ 11]) (z := 1) ?_
    simp only [val, q, List.cons.injEq, and_true]
    omega

/-! ### prime -/
def su_prime : Summ := ⟨[], none, [.slc 6]⟩
def t_prime0 : CT := .leaf ⟨[],
    [], [.c 13402431016077863595, .c 2210141511517208575, .c 7435674573564081700, .c 7239337960414712511, .c 5412103778470702295, .c 1873798617647539866]⟩
theorem chk_prime : checkFn Try.prog [] su_prime 400 Try.f10 (fun _ => t_prime0) = true := by kernel_rfl
theorem ok_prime : SummOK Try.prog 10 su_prime (Phi 10) := by
  refine summ_fn (Φ := Phi) 400 (fun _ => t_prime0) Try.func10 tbl_nil chk_prime ?_
  intro al hal l hl ρ hk hs ha
  have hn : su_prime.inKinds.length = 0 := rfl
  have hr : row ρ 0 = [] := rfl
  rw [hn, hr] at hk ⊢
  simp only [su_prime, Summ.inKinds, List.flatMap_cons, List.flatMap_nil, List.replicate, List.cons_append, List.nil_append, List.append_nil, holdsAll, K.holds] at hk
  simp only [t_prime0, CT.leaves, List.cons_append, List.nil_append, List.mem_cons, List.not_mem_nil, or_false] at hl
  subst hl
  simp only [satTr_cons, satTr_nil, sv_lss, sv_leq, sv_gtr, sv_geq, sv_eql, sv_neq, sv_not, sv_beq, sv_pick, sv_add, sv_sub, sv_fn, sv_eqs, E.den, List.map, K.holds] at hs
  simp only [asrOK_cons, asrOK_nil, if_true, if_false, Bool.false_eq_true, E.den] at ha
  clear hs
  clear ha
  change wds 6 q = [13402431016077863595, 2210141511517208575, 7435674573564081700, 7239337960414712511, 5412103778470702295, 1873798617647539866]
  kernel_rfl

/-! ### plus -/
def su_plus : Summ := ⟨[.slc 6, .slc 6], none, [.slc 6, .sc .bool]⟩
def t_plus0 : CT := .leaf ⟨[(48, .bool, .cmp .eql (.v 47) (.c 1)),
    (47, .i .u64, .pick (.v 46) (.c 1) (.c 0)),
    (46, .bool, .pick (.v 43) (.c 1) (.v 45)),
    (45, .bool, .cmp .lss (.v 44) (.v 42)),
    (44, .i .u64, .bin .add .u64 (.v 42) (.v 11)),
    (43, .bool, .cmp .lss (.v 42) (.v 41)),
    (42, .i .u64, .bin .add .u64 (.v 5) (.v 41)),
    (41, .i .u64, .pick (.v 40) (.c 1) (.c 0)),
    (40, .bool, .pick (.v 37) (.c 1) (.v 39)),
    (39, .bool, .cmp .lss (.v 38) (.v 36)),
    (38, .i .u64, .bin .add .u64 (.v 36) (.v 10)),
    (37, .bool, .cmp .lss (.v 36) (.v 35)),
    (36, .i .u64, .bin .add .u64 (.v 4) (.v 35)),
    (35, .i .u64, .pick (.v 34) (.c 1) (.c 0)),
    (34, .bool, .pick (.v 31) (.c 1) (.v 33)),
    (33, .bool, .cmp .lss (.v 32) (.v 30)),
    (32, .i .u64, .bin .add .u64 (.v 30) (.v 9)),
    (31, .bool, .cmp .lss (.v 30) (.v 29)),
    (30, .i .u64, .bin .add .u64 (.v 3) (.v 29)),
    (29, .i .u64, .pick (.v 28) (.c 1) (.c 0)),
    (28, .bool, .pick (.v 25) (.c 1) (.v 27)),
    (27, .bool, .cmp .lss (.v 26) (.v 24)),
    (26, .i .u64, .bin .add .u64 (.v 24) (.v 8)),
    (25, .bool, .cmp .lss (.v 24) (.v 23)),
    (24, .i .u64, .bin .add .u64 (.v 2) (.v 23)),
    (23, .i .u64, .pick (.v 22) (.c 1) (.c 0)),
    (22, .bool, .pick (.v 19) (.c 1) (.v 21)),
    (21, .bool, .cmp .lss (.v 20) (.v 18)),
    (20, .i .u64, .bin .add .u64 (.v 18) (.v 7)),
    (19, .bool, .cmp .lss (.v 18) (.v 17)),
    (18, .i .u64, .bin .add .u64 (.v 1) (.v 17)),
    (17, .i .u64, .pick (.v 16) (.c 1) (.c 0)),
    (16, .bool, .pick (.v 13) (.c 1) (.v 15)),
    (15, .bool, .cmp .lss (.v 14) (.v 12)),
    (14, .i .u64, .bin .add .u64 (.v 12) (.v 6)),
    (13, .bool, .cmp .lss (.v 12) (.c 0)),
    (12, .i .u64, .bin .add .u64 (.v 0) (.c 0))],
    [], [.v 14, .v 20, .v 26, .v 32, .v 38, .v 44, .v 48]⟩
theorem chk_plus : checkFn Try.prog [] su_plus 400 Try.f30 (fun _ => t_plus0) = true := by kernel_rfl
theorem ok_plus : SummOK Try.prog 30 su_plus (Phi 30) := by
  refine summ_fn (Φ := Phi) 400 (fun _ => t_plus0) Try.func30 tbl_nil chk_plus ?_
  intro al hal l hl ρ hk hs ha
  have hn : su_plus.inKinds.length = 12 := rfl
  have hr : row ρ 12 = [ρ 0, ρ 1, ρ 2, ρ 3, ρ 4, ρ 5, ρ 6, ρ 7, ρ 8, ρ 9, ρ 10, ρ 11] := rfl
  rw [hn, hr] at hk ⊢
  simp only [su_plus, Summ.inKinds, List.flatMap_cons, List.flatMap_nil, List.replicate, List.cons_append, List.nil_append, List.append_nil, holdsAll, K.holds] at hk
  obtain ⟨b0, b1, b2, b3, b4, b5, b6, b7, b8, b9, b10, b11, _⟩ := hk
  simp only [t_plus0, CT.leaves, List.cons_append, List.nil_append, List.mem_cons, List.not_mem_nil, or_false] at hl
  subst hl
  simp only [satTr_cons, satTr_nil, sv_lss, sv_leq, sv_gtr, sv_geq, sv_eql, sv_neq, sv_not, sv_beq, sv_pick, sv_add, sv_sub, sv_fn, sv_eqs, E.den, List.map, K.holds] at hs
  simp only [asrOK_cons, asrOK_nil, if_true, if_false, Bool.false_eq_true, E.den] at ha
  obtain ⟨⟨h48, k48⟩, ⟨h47, k47⟩, ⟨h46, k46⟩, ⟨h45, k45⟩, ⟨h44, k44⟩, ⟨h43, k43⟩, ⟨h42, k42⟩, ⟨h41, k41⟩, ⟨h40, k40⟩, ⟨h39, k39⟩, ⟨h38, k38⟩, ⟨h37, k37⟩, ⟨h36, k36⟩, ⟨h35, k35⟩, ⟨h34, k34⟩, ⟨h33, k33⟩, ⟨h32, k32⟩, ⟨h31, k31⟩, ⟨h30, k30⟩, ⟨h29, k29⟩, ⟨h28, k28⟩, ⟨h27, k27⟩, ⟨h26, k26⟩, ⟨h25, k25⟩, ⟨h24, k24⟩, ⟨h23, k23⟩, ⟨h22, k22⟩, ⟨h21, k21⟩, ⟨h20, k20⟩, ⟨h19, k19⟩, ⟨h18, k18⟩, ⟨h17, k17⟩, ⟨h16, k16⟩, ⟨h15, k15⟩, ⟨h14, k14⟩, ⟨h13, k13⟩, ⟨h12, k12⟩, _⟩ := hs
  clear ha
  obtain ⟨r0, c0⟩ := plus_round b0 b6 (.inl rfl) h12 h13 h14 h15 h16 h17
  obtain ⟨r1, c1⟩ := plus_round b1 b7 c0 h18 h19 h20 h21 h22 h23
  obtain ⟨r2, c2⟩ := plus_round b2 b8 c1 h24 h25 h26 h27 h28 h29
  obtain ⟨r3, c3⟩ := plus_round b3 b9 c2 h30 h31 h32 h33 h34 h35
  obtain ⟨r4, c4⟩ := plus_round b4 b10 c3 h36 h37 h38 h39 h40 h41
  obtain ⟨r5, c5⟩ := plus_round b5 b11 c4 h42 h43 h44 h45 h46 h47
  clear h12 h13 h14 h15 h16 h17 h18 h19 h20 h21 h22 h23 h24 h25 h26 h27 h28 h29 h30 h31 h32 h33 h34 h35 h36 h37 h38 h39 h40 h41 h42 h43 h44 h45 h46 h47
  refine plus_done (n := 6) (a := [ρ 0, ρ 1, ρ 2, ρ 3, ρ 4, ρ 5]) (b := [ρ 6, ρ 7, ρ 8, ρ 9, ρ 10, ρ 11]) (s := [ρ 14, ρ 20, ρ 26, ρ 32, ρ 38, ρ 44]) (c := ρ 47) (d := ρ 48) (u64s_cons k14 (u64s_cons k20 (u64s_cons k26 (u64s_cons k32 (u64s_cons k38 (u64s_cons k44 u64s_nil)))))) rfl ?_ c5 h48
  simp only [val, big]
  omega

/-! ### lessen -/
def su_lessen : Summ := ⟨[.slc 6, .slc 6], none, [.slc 6, .sc .bool]⟩
def t_lessen0 : CT := .leaf ⟨[(48, .bool, .cmp .eql (.v 47) (.c 1)),
    (47, .i .u64, .pick (.v 46) (.c 1) (.c 0)),
    (46, .bool, .pick (.v 43) (.c 1) (.v 45)),
    (45, .bool, .cmp .lss (.v 42) (.v 11)),
    (44, .i .u64, .bin .sub .u64 (.v 42) (.v 11)),
    (43, .bool, .cmp .lss (.v 5) (.v 41)),
    (42, .i .u64, .bin .sub .u64 (.v 5) (.v 41)),
    (41, .i .u64, .pick (.v 40) (.c 1) (.c 0)),
    (40, .bool, .pick (.v 37) (.c 1) (.v 39)),
    (39, .bool, .cmp .lss (.v 36) (.v 10)),
    (38, .i .u64, .bin .sub .u64 (.v 36) (.v 10)),
    (37, .bool, .cmp .lss (.v 4) (.v 35)),
    (36, .i .u64, .bin .sub .u64 (.v 4) (.v 35)),
    (35, .i .u64, .pick (.v 34) (.c 1) (.c 0)),
    (34, .bool, .pick (.v 31) (.c 1) (.v 33)),
    (33, .bool, .cmp .lss (.v 30) (.v 9)),
    (32, .i .u64, .bin .sub .u64 (.v 30) (.v 9)),
    (31, .bool, .cmp .lss (.v 3) (.v 29)),
    (30, .i .u64, .bin .sub .u64 (.v 3) (.v 29)),
    (29, .i .u64, .pick (.v 28) (.c 1) (.c 0)),
    (28, .bool, .pick (.v 25) (.c 1) (.v 27)),
    (27, .bool, .cmp .lss (.v 24) (.v 8)),
    (26, .i .u64, .bin .sub .u64 (.v 24) (.v 8)),
    (25, .bool, .cmp .lss (.v 2) (.v 23)),
    (24, .i .u64, .bin .sub .u64 (.v 2) (.v 23)),
    (23, .i .u64, .pick (.v 22) (.c 1) (.c 0)),
    (22, .bool, .pick (.v 19) (.c 1) (.v 21)),
    (21, .bool, .cmp .lss (.v 18) (.v 7)),
    (20, .i .u64, .bin .sub .u64 (.v 18) (.v 7)),
    (19, .bool, .cmp .lss (.v 1) (.v 17)),
    (18, .i .u64, .bin .sub .u64 (.v 1) (.v 17)),
    (17, .i .u64, .pick (.v 16) (.c 1) (.c 0)),
    (16, .bool, .pick (.v 13) (.c 1) (.v 15)),
    (15, .bool, .cmp .lss (.v 12) (.v 6)),
    (14, .i .u64, .bin .sub .u64 (.v 12) (.v 6)),
    (13, .bool, .cmp .lss (.v 0) (.c 0)),
    (12, .i .u64, .bin .sub .u64 (.v 0) (.c 0))],
    [], [.v 14, .v 20, .v 26, .v 32, .v 38, .v 44, .v 48]⟩
theorem chk_lessen : checkFn Try.prog [] su_lessen 400 Try.f29 (fun _ => t_lessen0) = true := by kernel_rfl
theorem ok_lessen : SummOK Try.prog 29 su_lessen (Phi 29) := by
  refine summ_fn (Φ := Phi) 400 (fun _ => t_lessen0) Try.func29 tbl_nil chk_lessen ?_
  intro al hal l hl ρ hk hs ha
  have hn : su_lessen.inKinds.length = 12 := rfl
  have hr : row ρ 12 = [ρ 0, ρ 1, ρ 2, ρ 3, ρ 4, ρ 5, ρ 6, ρ 7, ρ 8, ρ 9, ρ 10, ρ 11] := rfl
  rw [hn, hr] at hk ⊢
  simp only [su_lessen, Summ.inKinds, List.flatMap_cons, List.flatMap_nil, List.replicate, List.cons_append, List.nil_append, List.append_nil, holdsAll, K.holds] at hk
  obtain ⟨b0, b1, b2, b3, b4, b5, b6, b7, b8, b9, b10, b11, _⟩ := hk
  simp only [t_lessen0, CT.leaves, List.cons_append, List.nil_append, List.mem_cons, List.not_mem_nil, or_false] at hl
  subst hl
  simp only [satTr_cons, satTr_nil, sv_lss, sv_leq, sv_gtr, sv_geq, sv_eql, sv_neq, sv_not, sv_beq, sv_pick, sv_add, sv_sub, sv_fn, sv_eqs, E.den, List.map, K.holds] at hs
  simp only [asrOK_cons, asrOK_nil, if_true, if_false, Bool.false_eq_true, E.den] at ha
  obtain ⟨⟨h48, k48⟩, ⟨h47, k47⟩, ⟨h46, k46⟩, ⟨h45, k45⟩, ⟨h44, k44⟩, ⟨h43, k43⟩, ⟨h42, k42⟩, ⟨h41, k41⟩, ⟨h40, k40⟩, ⟨h39, k39⟩, ⟨h38, k38⟩, ⟨h37, k37⟩, ⟨h36, k36⟩, ⟨h35, k35⟩, ⟨h34, k34⟩, ⟨h33, k33⟩, ⟨h32, k32⟩, ⟨h31, k31⟩, ⟨h30, k30⟩, ⟨h29, k29⟩, ⟨h28, k28⟩, ⟨h27, k27⟩, ⟨h26, k26⟩, ⟨h25, k25⟩, ⟨h24, k24⟩, ⟨h23, k23⟩, ⟨h22, k22⟩, ⟨h21, k21⟩, ⟨h20, k20⟩, ⟨h19, k19⟩, ⟨h18, k18⟩, ⟨h17, k17⟩, ⟨h16, k16⟩, ⟨h15, k15⟩, ⟨h14, k14⟩, ⟨h13, k13⟩, ⟨h12, k12⟩, _⟩ := hs
  clear ha
  obtain ⟨r0, c0⟩ := lessen_round b0 b6 (.inl rfl) h12 h13 h14 h15 h16 h17
  obtain ⟨r1, c1⟩ := lessen_round b1 b7 c0 h18 h19 h20 h21 h22 h23
  obtain ⟨r2, c2⟩ := lessen_round b2 b8 c1 h24 h25 h26 h27 h28 h29
  obtain ⟨r3, c3⟩ := lessen_round b3 b9 c2 h30 h31 h32 h33 h34 h35
  obtain ⟨r4, c4⟩ := lessen_round b4 b10 c3 h36 h37 h38 h39 h40 h41
  obtain ⟨r5, c5⟩ := lessen_round b5 b11 c4 h42 h43 h44 h45 h46 h47
  clear h12 h13 h14 h15 h16 h17 h18 h19 h20 h21 h22 h23 h24 h25 h26 h27 h28 h29 h30 h31 h32 h33 h34 h35 h36 h37 h38 h39 h40 h41 h42 h43 h44 h45 h46 h47
  refine lessen_done (n := 6) (a := [ρ 0, ρ 1, ρ 2, ρ 3, ρ 4, ρ 5]) (b := [ρ 6, ρ 7, ρ 8, ρ 9, ρ 10, ρ 11]) (s := [ρ 14, ρ 20, ρ 26, ρ 32, ρ 38, ρ 44]) (c := ρ 47) (d := ρ 48) (u64s_cons k14 (u64s_cons k20 (u64s_cons k26 (u64s_cons k32 (u64s_cons k38 (u64s_cons k44 u64s_nil)))))) rfl ?_ c5 h48
  simp only [val, big]
  omega

/-! ### addW -/
def su_addW : Summ := ⟨[.slc 6, .slc 6, .slc 6], none, [.slc 6]⟩
def t_addW0 : CT := .node (.v 27)
  (.leaf ⟨[(34, .bool, .fn 29 [.v 18, .v 19, .v 20, .v 21, .v 22, .v 23, .v 12, .v 13, .v 14, .v 15, .v 16, .v 17] 6),
    (33, .i .u64, .fn 29 [.v 18, .v 19, .v 20, .v 21, .v 22, .v 23, .v 12, .v 13, .v 14, .v 15, .v 16, .v 17] 5),
    (32, .i .u64, .fn 29 [.v 18, .v 19, .v 20, .v 21, .v 22, .v 23, .v 12, .v 13, .v 14, .v 15, .v 16, .v 17] 4),
    (31, .i .u64, .fn 29 [.v 18, .v 19, .v 20, .v 21, .v 22, .v 23, .v 12, .v 13, .v 14, .v 15, .v 16, .v 17] 3),
    (30, .i .u64, .fn 29 [.v 18, .v 19, .v 20, .v 21, .v 22, .v 23, .v 12, .v 13, .v 14, .v 15, .v 16, .v 17] 2),
    (29, .i .u64, .fn 29 [.v 18, .v 19, .v 20, .v 21, .v 22, .v 23, .v 12, .v 13, .v 14, .v 15, .v 16, .v 17] 1),
    (28, .i .u64, .fn 29 [.v 18, .v 19, .v 20, .v 21, .v 22, .v 23, .v 12, .v 13, .v 14, .v 15, .v 16, .v 17] 0),
    (27, .bool, .pick (.v 24) (.c 1) (.v 26)),
    (26, .bool, .not (.v 25)),
    (25, .bool, .fn 9 [.v 18, .v 19, .v 20, .v 21, .v 22, .v 23, .v 12, .v 13, .v 14, .v 15, .v 16, .v 17] 0),
    (24, .bool, .fn 30 [.v 0, .v 1, .v 2, .v 3, .v 4, .v 5, .v 6, .v 7, .v 8, .v 9, .v 10, .v 11] 6),
    (23, .i .u64, .fn 30 [.v 0, .v 1, .v 2, .v 3, .v 4, .v 5, .v 6, .v 7, .v 8, .v 9, .v 10, .v 11] 5),
    (22, .i .u64, .fn 30 [.v 0, .v 1, .v 2, .v 3, .v 4, .v 5, .v 6, .v 7, .v 8, .v 9, .v 10, .v 11] 4),
    (21, .i .u64, .fn 30 [.v 0, .v 1, .v 2, .v 3, .v 4, .v 5, .v 6, .v 7, .v 8, .v 9, .v 10, .v 11] 3),
    (20, .i .u64, .fn 30 [.v 0, .v 1, .v 2, .v 3, .v 4, .v 5, .v 6, .v 7, .v 8, .v 9, .v 10, .v 11] 2),
    (19, .i .u64, .fn 30 [.v 0, .v 1, .v 2, .v 3, .v 4, .v 5, .v 6, .v 7, .v 8, .v 9, .v 10, .v 11] 1),
    (18, .i .u64, .fn 30 [.v 0, .v 1, .v 2, .v 3, .v 4, .v 5, .v 6, .v 7, .v 8, .v 9, .v 10, .v 11] 0)],
    [(.v 27, true)], [.v 28, .v 29, .v 30, .v 31, .v 32, .v 33]⟩)
  (.leaf ⟨[(27, .bool, .pick (.v 24) (.c 1) (.v 26)),
    (26, .bool, .not (.v 25)),
    (25, .bool, .fn 9 [.v 18, .v 19, .v 20, .v 21, .v 22, .v 23, .v 12, .v 13, .v 14, .v 15, .v 16, .v 17] 0),
    (24, .bool, .fn 30 [.v 0, .v 1, .v 2, .v 3, .v 4, .v 5, .v 6, .v 7, .v 8, .v 9, .v 10, .v 11] 6),
    (23, .i .u64, .fn 30 [.v 0, .v 1, .v 2, .v 3, .v 4, .v 5, .v 6, .v 7, .v 8, .v 9, .v 10, .v 11] 5),
    (22, .i .u64, .fn 30 [.v 0, .v 1, .v 2, .v 3, .v 4, .v 5, .v 6, .v 7, .v 8, .v 9, .v 10, .v 11] 4),
    (21, .i .u64, .fn 30 [.v 0, .v 1, .v 2, .v 3, .v 4, .v 5, .v 6, .v 7, .v 8, .v 9, .v 10, .v 11] 3),
    (20, .i .u64, .fn 30 [.v 0, .v 1, .v 2, .v 3, .v 4, .v 5, .v 6, .v 7, .v 8, .v 9, .v 10, .v 11] 2),
    (19, .i .u64, .fn 30 [.v 0, .v 1, .v 2, .v 3, .v 4, .v 5, .v 6, .v 7, .v 8, .v 9, .v 10, .v 11] 1),
    (18, .i .u64, .fn 30 [.v 0, .v 1, .v 2, .v 3, .v 4, .v 5, .v 6, .v 7, .v 8, .v 9, .v 10, .v 11] 0)],
    [(.v 27, false)], [.v 18, .v 19, .v 20, .v 21, .v 22, .v 23]⟩)
theorem chk_addW : checkFn Try.prog [(30, su_plus), (29, su_lessen), (9, su_less)] su_addW 400 Try.f27 (fun _ => t_addW0) = true := by kernel_rfl
theorem ok_addW : SummOK Try.prog 27 su_addW (Phi 27) := by
  refine summ_fn (Φ := Phi) 400 (fun _ => t_addW0) Try.func27 (tbl_cons ok_plus (tbl_cons ok_lessen (tbl_cons ok_less tbl_nil))) chk_addW ?_
  intro al hal l hl ρ hk hs ha
  have hn : su_addW.inKinds.length = 18 := rfl
  have hr : row ρ 18 = [ρ 0, ρ 1, ρ 2, ρ 3, ρ 4, ρ 5, ρ 6, ρ 7, ρ 8, ρ 9, ρ 10, ρ 11, ρ 12, ρ 13, ρ 14, ρ 15, ρ 16, ρ 17] := rfl
  rw [hn, hr] at hk ⊢
  simp only [su_addW, Summ.inKinds, List.flatMap_cons, List.flatMap_nil, List.replicate, List.cons_append, List.nil_append, List.append_nil, holdsAll, K.holds] at hk
  obtain ⟨b0, b1, b2, b3, b4, b5, b6, b7, b8, b9, b10, b11, b12, b13, b14, b15, b16, b17, _⟩ := hk
  simp only [t_addW0, CT.leaves, List.cons_append, List.nil_append, List.mem_cons, List.not_mem_nil, or_false] at hl
  rcases hl with rfl | rfl
  · simp only [satTr_cons, satTr_nil, sv_lss, sv_leq, sv_gtr, sv_geq, sv_eql, sv_neq, sv_not, sv_beq, sv_pick, sv_add, sv_sub, sv_fn, sv_eqs, E.den, List.map, K.holds] at hs
    simp only [asrOK_cons, asrOK_nil, if_true, if_false, Bool.false_eq_true, E.den] at ha
    obtain ⟨⟨h34, k34⟩, ⟨h33, k33⟩, ⟨h32, k32⟩, ⟨h31, k31⟩, ⟨h30, k30⟩, ⟨h29, k29⟩, ⟨h28, k28⟩, ⟨h27, k27⟩, ⟨h26, k26⟩, ⟨h25, k25⟩, ⟨h24, k24⟩, ⟨h23, k23⟩, ⟨h22, k22⟩, ⟨h21, k21⟩, ⟨h20, k20⟩, ⟨h19, k19⟩, ⟨h18, k18⟩, _⟩ := hs
    obtain ⟨a0, _⟩ := ha
    have g18 : [ρ 18, ρ 19, ρ 20, ρ 21, ρ 22, ρ 23] = wds 6 (val [ρ 0, ρ 1, ρ 2, ρ 3, ρ 4, ρ 5] + val [ρ 6, ρ 7, ρ 8, ρ 9, ρ 10, ρ 11]) := get6 rfl h18 h19 h20 h21 h22 h23
    have e24 : ρ 24 = b2i (decide (big 6 ≤ val [ρ 0, ρ 1, ρ 2, ρ 3, ρ 4, ρ 5] + val [ρ 6, ρ 7, ρ 8, ρ 9, ρ 10, ρ 11])) := h24
    rw [st_dec] at e24
    have e25 : ρ 25 = b2i (decide (val [ρ 18, ρ 19, ρ 20, ρ 21, ρ 22, ρ 23] < val [ρ 12, ρ 13, ρ 14, ρ 15, ρ 16, ρ 17])) := h25
    rw [st_dec] at e25
    have g28 : [ρ 28, ρ 29, ρ 30, ρ 31, ρ 32, ρ 33] = wds 6 (val [ρ 18, ρ 19, ρ 20, ρ 21, ρ 22, ρ 23] - val [ρ 12, ρ 13, ρ 14, ρ 15, ρ 16, ρ 17]) := get6 rfl h28 h29 h30 h31 h32 h33
    have e34 : ρ 34 = b2i (decide (val [ρ 18, ρ 19, ρ 20, ρ 21, ρ 22, ρ 23] < val [ρ 12, ρ 13, ρ 14, ρ 15, ρ 16, ρ 17])) := h34
    rw [st_dec] at e34
    rw [g18] at e25
    change wds 6 (addM (val [ρ 0, ρ 1, ρ 2, ρ 3, ρ 4, ρ 5]) (val [ρ 6, ρ 7, ρ 8, ρ 9, ρ 10, ρ 11]) (val [ρ 12, ρ 13, ρ 14, ρ 15, ρ 16, ρ 17])) = [ρ 28, ρ 29, ρ 30, ρ 31, ρ 32, ρ 33]
    rw [g28, g18]
    exact addW_yes (u64s_cons b0 (u64s_cons b1 (u64s_cons b2 (u64s_cons b3 (u64s_cons b4 (u64s_cons b5 u64s_nil)))))) (u64s_cons b6 (u64s_cons b7 (u64s_cons b8 (u64s_cons b9 (u64s_cons b10 (u64s_cons b11 u64s_nil)))))) (u64s_cons b12 (u64s_cons b13 (u64s_cons b14 (u64s_cons b15 (u64s_cons b16 (u64s_cons b17 u64s_nil)))))) rfl (by by_cases hq : big 6 ≤ val [ρ 0, ρ 1, ρ 2, ρ 3, ρ 4, ρ 5] + val [ρ 6, ρ 7, ρ 8, ρ 9, ρ 10, ρ 11]; exact .inl hq; right; intro hlt; simp only [hq, hlt, not_true_eq_false, not_false_eq_true, true_and, false_and, false_or, or_false] at e24 e25; omega)
  · simp only [satTr_cons, satTr_nil, sv_lss, sv_leq, sv_gtr, sv_geq, sv_eql, sv_neq, sv_not, sv_beq, sv_pick, sv_add, sv_sub, sv_fn, sv_eqs, E.den, List.map, K.holds] at hs
    simp only [asrOK_cons, asrOK_nil, if_true, if_false, Bool.false_eq_true, E.den] at ha
    obtain ⟨⟨h27, k27⟩, ⟨h26, k26⟩, ⟨h25, k25⟩, ⟨h24, k24⟩, ⟨h23, k23⟩, ⟨h22, k22⟩, ⟨h21, k21⟩, ⟨h20, k20⟩, ⟨h19, k19⟩, ⟨h18, k18⟩, _⟩ := hs
    obtain ⟨a0, _⟩ := ha
    have g18 : [ρ 18, ρ 19, ρ 20, ρ 21, ρ 22, ρ 23] = wds 6 (val [ρ 0, ρ 1, ρ 2, ρ 3, ρ 4, ρ 5] + val [ρ 6, ρ 7, ρ 8, ρ 9, ρ 10, ρ 11]) := get6 rfl h18 h19 h20 h21 h22 h23
    have e24 : ρ 24 = b2i (decide (big 6 ≤ val [ρ 0, ρ 1, ρ 2, ρ 3, ρ 4, ρ 5] + val [ρ 6, ρ 7, ρ 8, ρ 9, ρ 10, ρ 11])) := h24
    rw [st_dec] at e24
    have e25 : ρ 25 = b2i (decide (val [ρ 18, ρ 19, ρ 20, ρ 21, ρ 22, ρ 23] < val [ρ 12, ρ 13, ρ 14, ρ 15, ρ 16, ρ 17])) := h25
    rw [st_dec] at e25
    rw [g18] at e25
    change wds 6 (addM (val [ρ 0, ρ 1, ρ 2, ρ 3, ρ 4, ρ 5]) (val [ρ 6, ρ 7, ρ 8, ρ 9, ρ 10, ρ 11]) (val [ρ 12, ρ 13, ρ 14, ρ 15, ρ 16, ρ 17])) = [ρ 18, ρ 19, ρ 20, ρ 21, ρ 22, ρ 23]
    rw [g18]
    by_cases hq : big 6 ≤ val [ρ 0, ρ 1, ρ 2, ρ 3, ρ 4, ρ 5] + val [ρ 6, ρ 7, ρ 8, ρ 9, ρ 10, ρ 11]
    · simp only [hq, not_true_eq_false, true_and, false_and, or_false] at e24; omega
    · by_cases hl : val (wds 6 (val [ρ 0, ρ 1, ρ 2, ρ 3, ρ 4, ρ 5] + val [ρ 6, ρ 7, ρ 8, ρ 9, ρ 10, ρ 11])) < val [ρ 12, ρ 13, ρ 14, ρ 15, ρ 16, ρ 17]
      · exact addW_no (u64s_cons b0 (u64s_cons b1 (u64s_cons b2 (u64s_cons b3 (u64s_cons b4 (u64s_cons b5 u64s_nil)))))) (u64s_cons b6 (u64s_cons b7 (u64s_cons b8 (u64s_cons b9 (u64s_cons b10 (u64s_cons b11 u64s_nil)))))) hq hl
      · simp only [hl, not_false_eq_true, true_and, false_and, false_or] at e25; omega

/-! ### times -/
def su_times : Summ := ⟨[.cn 5, .slc 6, .slc 6], none, [.slc 6]⟩
def t_times0 : CT := .leaf ⟨[(42, .i .u64, .fn 27 [.v 31, .v 32, .v 33, .v 34, .v 35, .v 36, .v 1, .v 2, .v 3, .v 4, .v 5, .v 6, .v 7, .v 8, .v 9, .v 10, .v 11, .v 12] 5),
    (41, .i .u64, .fn 27 [.v 31, .v 32, .v 33, .v 34, .v 35, .v 36, .v 1, .v 2, .v 3, .v 4, .v 5, .v 6, .v 7, .v 8, .v 9, .v 10, .v 11, .v 12] 4),
    (40, .i .u64, .fn 27 [.v 31, .v 32, .v 33, .v 34, .v 35, .v 36, .v 1, .v 2, .v 3, .v 4, .v 5, .v 6, .v 7, .v 8, .v 9, .v 10, .v 11, .v 12] 3),
    (39, .i .u64, .fn 27 [.v 31, .v 32, .v 33, .v 34, .v 35, .v 36, .v 1, .v 2, .v 3, .v 4, .v 5, .v 6, .v 7, .v 8, .v 9, .v 10, .v 11, .v 12] 2),
    (38, .i .u64, .fn 27 [.v 31, .v 32, .v 33, .v 34, .v 35, .v 36, .v 1, .v 2, .v 3, .v 4, .v 5, .v 6, .v 7, .v 8, .v 9, .v 10, .v 11, .v 12] 1),
    (37, .i .u64, .fn 27 [.v 31, .v 32, .v 33, .v 34, .v 35, .v 36, .v 1, .v 2, .v 3, .v 4, .v 5, .v 6, .v 7, .v 8, .v 9, .v 10, .v 11, .v 12] 0),
    (36, .i .u64, .fn 27 [.v 25, .v 26, .v 27, .v 28, .v 29, .v 30, .v 1, .v 2, .v 3, .v 4, .v 5, .v 6, .v 7, .v 8, .v 9, .v 10, .v 11, .v 12] 5),
    (35, .i .u64, .fn 27 [.v 25, .v 26, .v 27, .v 28, .v 29, .v 30, .v 1, .v 2, .v 3, .v 4, .v 5, .v 6, .v 7, .v 8, .v 9, .v 10, .v 11, .v 12] 4),
    (34, .i .u64, .fn 27 [.v 25, .v 26, .v 27, .v 28, .v 29, .v 30, .v 1, .v 2, .v 3, .v 4, .v 5, .v 6, .v 7, .v 8, .v 9, .v 10, .v 11, .v 12] 3),
    (33, .i .u64, .fn 27 [.v 25, .v 26, .v 27, .v 28, .v 29, .v 30, .v 1, .v 2, .v 3, .v 4, .v 5, .v 6, .v 7, .v 8, .v 9, .v 10, .v 11, .v 12] 2),
    (32, .i .u64, .fn 27 [.v 25, .v 26, .v 27, .v 28, .v 29, .v 30, .v 1, .v 2, .v 3, .v 4, .v 5, .v 6, .v 7, .v 8, .v 9, .v 10, .v 11, .v 12] 1),
    (31, .i .u64, .fn 27 [.v 25, .v 26, .v 27, .v 28, .v 29, .v 30, .v 1, .v 2, .v 3, .v 4, .v 5, .v 6, .v 7, .v 8, .v 9, .v 10, .v 11, .v 12] 0),
    (30, .i .u64, .fn 27 [.v 19, .v 20, .v 21, .v 22, .v 23, .v 24, .v 1, .v 2, .v 3, .v 4, .v 5, .v 6, .v 7, .v 8, .v 9, .v 10, .v 11, .v 12] 5),
    (29, .i .u64, .fn 27 [.v 19, .v 20, .v 21, .v 22, .v 23, .v 24, .v 1, .v 2, .v 3, .v 4, .v 5, .v 6, .v 7, .v 8, .v 9, .v 10, .v 11, .v 12] 4),
    (28, .i .u64, .fn 27 [.v 19, .v 20, .v 21, .v 22, .v 23, .v 24, .v 1, .v 2, .v 3, .v 4, .v 5, .v 6, .v 7, .v 8, .v 9, .v 10, .v 11, .v 12] 3),
    (27, .i .u64, .fn 27 [.v 19, .v 20, .v 21, .v 22, .v 23, .v 24, .v 1, .v 2, .v 3, .v 4, .v 5, .v 6, .v 7, .v 8, .v 9, .v 10, .v 11, .v 12] 2),
    (26, .i .u64, .fn 27 [.v 19, .v 20, .v 21, .v 22, .v 23, .v 24, .v 1, .v 2, .v 3, .v 4, .v 5, .v 6, .v 7, .v 8, .v 9, .v 10, .v 11, .v 12] 1),
    (25, .i .u64, .fn 27 [.v 19, .v 20, .v 21, .v 22, .v 23, .v 24, .v 1, .v 2, .v 3, .v 4, .v 5, .v 6, .v 7, .v 8, .v 9, .v 10, .v 11, .v 12] 0),
    (24, .i .u64, .fn 27 [.v 13, .v 14, .v 15, .v 16, .v 17, .v 18, .v 1, .v 2, .v 3, .v 4, .v 5, .v 6, .v 7, .v 8, .v 9, .v 10, .v 11, .v 12] 5),
    (23, .i .u64, .fn 27 [.v 13, .v 14, .v 15, .v 16, .v 17, .v 18, .v 1, .v 2, .v 3, .v 4, .v 5, .v 6, .v 7, .v 8, .v 9, .v 10, .v 11, .v 12] 4),
    (22, .i .u64, .fn 27 [.v 13, .v 14, .v 15, .v 16, .v 17, .v 18, .v 1, .v 2, .v 3, .v 4, .v 5, .v 6, .v 7, .v 8, .v 9, .v 10, .v 11, .v 12] 3),
    (21, .i .u64, .fn 27 [.v 13, .v 14, .v 15, .v 16, .v 17, .v 18, .v 1, .v 2, .v 3, .v 4, .v 5, .v 6, .v 7, .v 8, .v 9, .v 10, .v 11, .v 12] 2),
    (20, .i .u64, .fn 27 [.v 13, .v 14, .v 15, .v 16, .v 17, .v 18, .v 1, .v 2, .v 3, .v 4, .v 5, .v 6, .v 7, .v 8, .v 9, .v 10, .v 11, .v 12] 1),
    (19, .i .u64, .fn 27 [.v 13, .v 14, .v 15, .v 16, .v 17, .v 18, .v 1, .v 2, .v 3, .v 4, .v 5, .v 6, .v 7, .v 8, .v 9, .v 10, .v 11, .v 12] 0),
    (18, .i .u64, .fn 27 [.c 0, .c 0, .c 0, .c 0, .c 0, .c 0, .v 1, .v 2, .v 3, .v 4, .v 5, .v 6, .v 7, .v 8, .v 9, .v 10, .v 11, .v 12] 5),
    (17, .i .u64, .fn 27 [.c 0, .c 0, .c 0, .c 0, .c 0, .c 0, .v 1, .v 2, .v 3, .v 4, .v 5, .v 6, .v 7, .v 8, .v 9, .v 10, .v 11, .v 12] 4),
    (16, .i .u64, .fn 27 [.c 0, .c 0, .c 0, .c 0, .c 0, .c 0, .v 1, .v 2, .v 3, .v 4, .v 5, .v 6, .v 7, .v 8, .v 9, .v 10, .v 11, .v 12] 3),
    (15, .i .u64, .fn 27 [.c 0, .c 0, .c 0, .c 0, .c 0, .c 0, .v 1, .v 2, .v 3, .v 4, .v 5, .v 6, .v 7, .v 8, .v 9, .v 10, .v 11, .v 12] 2),
    (14, .i .u64, .fn 27 [.c 0, .c 0, .c 0, .c 0, .c 0, .c 0, .v 1, .v 2, .v 3, .v 4, .v 5, .v 6, .v 7, .v 8, .v 9, .v 10, .v 11, .v 12] 1),
    (13, .i .u64, .fn 27 [.c 0, .c 0, .c 0, .c 0, .c 0, .c 0, .v 1, .v 2, .v 3, .v 4, .v 5, .v 6, .v 7, .v 8, .v 9, .v 10, .v 11, .v 12] 0)],
    [], [.v 37, .v 38, .v 39, .v 40, .v 41, .v 42]⟩
theorem chk_times : checkFn Try.prog [(27, su_addW)] su_times 400 Try.f21 (fun _ => t_times0) = true := by kernel_rfl
theorem ok_times : SummOK Try.prog 21 su_times (Phi 21) := by
  refine summ_fn (Φ := Phi) 400 (fun _ => t_times0) Try.func21 (tbl_cons ok_addW tbl_nil) chk_times ?_
  intro al hal l hl ρ hk hs ha
  have hn : su_times.inKinds.length = 13 := rfl
  have hr : row ρ 13 = [ρ 0, ρ 1, ρ 2, ρ 3, ρ 4, ρ 5, ρ 6, ρ 7, ρ 8, ρ 9, ρ 10, ρ 11, ρ 12] := rfl
  rw [hn, hr] at hk ⊢
  simp only [su_times, Summ.inKinds, List.flatMap_cons, List.flatMap_nil, List.replicate, List.cons_append, List.nil_append, List.append_nil, holdsAll, K.holds] at hk
  obtain ⟨b0, b1, b2, b3, b4, b5, b6, b7, b8, b9, b10, b11, b12, _⟩ := hk
  simp only [t_times0, CT.leaves, List.cons_append, List.nil_append, List.mem_cons, List.not_mem_nil, or_false] at hl
  subst hl
  simp only [satTr_cons, satTr_nil, sv_lss, sv_leq, sv_gtr, sv_geq, sv_eql, sv_neq, sv_not, sv_beq, sv_pick, sv_add, sv_sub, sv_fn, sv_eqs, E.den, List.map, K.holds] at hs
  simp only [asrOK_cons, asrOK_nil, if_true, if_false, Bool.false_eq_true, E.den] at ha
  obtain ⟨⟨h42, k42⟩, ⟨h41, k41⟩, ⟨h40, k40⟩, ⟨h39, k39⟩, ⟨h38, k38⟩, ⟨h37, k37⟩, ⟨h36, k36⟩, ⟨h35, k35⟩, ⟨h34, k34⟩, ⟨h33, k33⟩, ⟨h32, k32⟩, ⟨h31, k31⟩, ⟨h30, k30⟩, ⟨h29, k29⟩, ⟨h28, k28⟩, ⟨h27, k27⟩, ⟨h26, k26⟩, ⟨h25, k25⟩, ⟨h24, k24⟩, ⟨h23, k23⟩, ⟨h22, k22⟩, ⟨h21, k21⟩, ⟨h20, k20⟩, ⟨h19, k19⟩, ⟨h18, k18⟩, ⟨h17, k17⟩, ⟨h16, k16⟩, ⟨h15, k15⟩, ⟨h14, k14⟩, ⟨h13, k13⟩, _⟩ := hs
  clear ha
  have g13 : [ρ 13, ρ 14, ρ 15, ρ 16, ρ 17, ρ 18] = wds 6 (addM (val [0, 0, 0, 0, 0, 0]) (val [ρ 1, ρ 2, ρ 3, ρ 4, ρ 5, ρ 6]) (val [ρ 7, ρ 8, ρ 9, ρ 10, ρ 11, ρ 12])) := get6 rfl h13 h14 h15 h16 h17 h18
  have g19 : [ρ 19, ρ 20, ρ 21, ρ 22, ρ 23, ρ 24] = wds 6 (addM (val [ρ 13, ρ 14, ρ 15, ρ 16, ρ 17, ρ 18]) (val [ρ 1, ρ 2, ρ 3, ρ 4, ρ 5, ρ 6]) (val [ρ 7, ρ 8, ρ 9, ρ 10, ρ 11, ρ 12])) := get6 rfl h19 h20 h21 h22 h23 h24
  have g25 : [ρ 25, ρ 26, ρ 27, ρ 28, ρ 29, ρ 30] = wds 6 (addM (val [ρ 19, ρ 20, ρ 21, ρ 22, ρ 23, ρ 24]) (val [ρ 1, ρ 2, ρ 3, ρ 4, ρ 5, ρ 6]) (val [ρ 7, ρ 8, ρ 9, ρ 10, ρ 11, ρ 12])) := get6 rfl h25 h26 h27 h28 h29 h30
  have g31 : [ρ 31, ρ 32, ρ 33, ρ 34, ρ 35, ρ 36] = wds 6 (addM (val [ρ 25, ρ 26, ρ 27, ρ 28, ρ 29, ρ 30]) (val [ρ 1, ρ 2, ρ 3, ρ 4, ρ 5, ρ 6]) (val [ρ 7, ρ 8, ρ 9, ρ 10, ρ 11, ρ 12])) := get6 rfl h31 h32 h33 h34 h35 h36
  have g37 : [ρ 37, ρ 38, ρ 39, ρ 40, ρ 41, ρ 42] = wds 6 (addM (val [ρ 31, ρ 32, ρ 33, ρ 34, ρ 35, ρ 36]) (val [ρ 1, ρ 2, ρ 3, ρ 4, ρ 5, ρ 6]) (val [ρ 7, ρ 8, ρ 9, ρ 10, ρ 11, ρ 12])) := get6 rfl h37 h38 h39 h40 h41 h42
  change addI 6 [ρ 1, ρ 2, ρ 3, ρ 4, ρ 5, ρ 6] [ρ 7, ρ 8, ρ 9, ρ 10, ρ 11, ρ 12] (addI 6 [ρ 1, ρ 2, ρ 3, ρ 4, ρ 5, ρ 6] [ρ 7, ρ 8, ρ 9, ρ 10, ρ 11, ρ 12] (addI 6 [ρ 1, ρ 2, ρ 3, ρ 4, ρ 5, ρ 6] [ρ 7, ρ 8, ρ 9, ρ 10, ρ 11, ρ 12] (addI 6 [ρ 1, ρ 2, ρ 3, ρ 4, ρ 5, ρ 6] [ρ 7, ρ 8, ρ 9, ρ 10, ρ 11, ρ 12] (addI 6 [ρ 1, ρ 2, ρ 3, ρ 4, ρ 5, ρ 6] [ρ 7, ρ 8, ρ 9, ρ 10, ρ 11, ρ 12] [0, 0, 0, 0, 0, 0])))) = [ρ 37, ρ 38, ρ 39, ρ 40, ρ 41, ρ 42]
  have s0 : addI 6 [ρ 1, ρ 2, ρ 3, ρ 4, ρ 5, ρ 6] [ρ 7, ρ 8, ρ 9, ρ 10, ρ 11, ρ 12] [0, 0, 0, 0, 0, 0] = [ρ 13, ρ 14, ρ 15, ρ 16, ρ 17, ρ 18] := g13.symm
  have s1 : addI 6 [ρ 1, ρ 2, ρ 3, ρ 4, ρ 5, ρ 6] [ρ 7, ρ 8, ρ 9, ρ 10, ρ 11, ρ 12] [ρ 13, ρ 14, ρ 15, ρ 16, ρ 17, ρ 18] = [ρ 19, ρ 20, ρ 21, ρ 22, ρ 23, ρ 24] := g19.symm
  have s2 : addI 6 [ρ 1, ρ 2, ρ 3, ρ 4, ρ 5, ρ 6] [ρ 7, ρ 8, ρ 9, ρ 10, ρ 11, ρ 12] [ρ 19, ρ 20, ρ 21, ρ 22, ρ 23, ρ 24] = [ρ 25, ρ 26, ρ 27, ρ 28, ρ 29, ρ 30] := g25.symm
  have s3 : addI 6 [ρ 1, ρ 2, ρ 3, ρ 4, ρ 5, ρ 6] [ρ 7, ρ 8, ρ 9, ρ 10, ρ 11, ρ 12] [ρ 25, ρ 26, ρ 27, ρ 28, ρ 29, ρ 30] = [ρ 31, ρ 32, ρ 33, ρ 34, ρ 35, ρ 36] := g31.symm
  have s4 : addI 6 [ρ 1, ρ 2, ρ 3, ρ 4, ρ 5, ρ 6] [ρ 7, ρ 8, ρ 9, ρ 10, ρ 11, ρ 12] [ρ 31, ρ 32, ρ 33, ρ 34, ρ 35, ρ 36] = [ρ 37, ρ 38, ρ 39, ρ 40, ρ 41, ρ 42] := g37.symm
  rw [s0, s1, s2, s3, s4]

/-! ### small -/
def su_small : Summ := ⟨[.ptr 6], none, [.sc .bool]⟩
def t_small0 : CT := .node (.v 6)
  (.leaf ⟨[(6, .bool, .cmp .lss (.v 5) (.c 1873798617647539866))],
    [(.v 6, true)], [.c 1]⟩)
  (.node (.v 7)
  (.node (.v 8)
  (.leaf ⟨[(8, .bool, .cmp .lss (.v 4) (.c 5412103778470702295)),
    (7, .bool, .cmp .eql (.v 5) (.c 1873798617647539866)),
    (6, .bool, .cmp .lss (.v 5) (.c 1873798617647539866))],
    [(.v 8, true), (.v 7, true), (.v 6, false)], [.c 1]⟩)
  (.node (.v 9)
  (.node (.v 10)
  (.leaf ⟨[(10, .bool, .cmp .lss (.v 3) (.c 7239337960414712511)),
    (9, .bool, .cmp .eql (.v 4) (.c 5412103778470702295)),
    (8, .bool, .cmp .lss (.v 4) (.c 5412103778470702295)),
    (7, .bool, .cmp .eql (.v 5) (.c 1873798617647539866)),
    (6, .bool, .cmp .lss (.v 5) (.c 1873798617647539866))],
    [(.v 10, true), (.v 9, true), (.v 8, false), (.v 7, true), (.v 6, false)], [.c 1]⟩)
  (.node (.v 11)
  (.node (.v 12)
  (.leaf ⟨[(12, .bool, .cmp .lss (.v 2) (.c 7435674573564081700)),
    (11, .bool, .cmp .eql (.v 3) (.c 7239337960414712511)),
    (10, .bool, .cmp .lss (.v 3) (.c 7239337960414712511)),
    (9, .bool, .cmp .eql (.v 4) (.c 5412103778470702295)),
    (8, .bool, .cmp .lss (.v 4) (.c 5412103778470702295)),
    (7, .bool, .cmp .eql (.v 5) (.c 1873798617647539866)),
    (6, .bool, .cmp .lss (.v 5) (.c 1873798617647539866))],
    [(.v 12, true), (.v 11, true), (.v 10, false), (.v 9, true), (.v 8, false), (.v 7, true), (.v 6, false)], [.c 1]⟩)
  (.node (.v 13)
  (.node (.v 14)
  (.leaf ⟨[(14, .bool, .cmp .lss (.v 1) (.c 2210141511517208575)),
    (13, .bool, .cmp .eql (.v 2) (.c 7435674573564081700)),
    (12, .bool, .cmp .lss (.v 2) (.c 7435674573564081700)),
    (11, .bool, .cmp .eql (.v 3) (.c 7239337960414712511)),
    (10, .bool, .cmp .lss (.v 3) (.c 7239337960414712511)),
    (9, .bool, .cmp .eql (.v 4) (.c 5412103778470702295)),
    (8, .bool, .cmp .lss (.v 4) (.c 5412103778470702295)),
    (7, .bool, .cmp .eql (.v 5) (.c 1873798617647539866)),
    (6, .bool, .cmp .lss (.v 5) (.c 1873798617647539866))],
    [(.v 14, true), (.v 13, true), (.v 12, false), (.v 11, true), (.v 10, false), (.v 9, true), (.v 8, false), (.v 7, true), (.v 6, false)], [.c 1]⟩)
  (.node (.v 15)
  (.leaf ⟨[(16, .bool, .cmp .lss (.v 0) (.c 13402431016077863595)),
    (15, .bool, .cmp .eql (.v 1) (.c 2210141511517208575)),
    (14, .bool, .cmp .lss (.v 1) (.c 2210141511517208575)),
    (13, .bool, .cmp .eql (.v 2) (.c 7435674573564081700)),
    (12, .bool, .cmp .lss (.v 2) (.c 7435674573564081700)),
    (11, .bool, .cmp .eql (.v 3) (.c 7239337960414712511)),
    (10, .bool, .cmp .lss (.v 3) (.c 7239337960414712511)),
    (9, .bool, .cmp .eql (.v 4) (.c 5412103778470702295)),
    (8, .bool, .cmp .lss (.v 4) (.c 5412103778470702295)),
    (7, .bool, .cmp .eql (.v 5) (.c 1873798617647539866)),
    (6, .bool, .cmp .lss (.v 5) (.c 1873798617647539866))],
    [(.v 15, true), (.v 14, false), (.v 13, true), (.v 12, false), (.v 11, true), (.v 10, false), (.v 9, true), (.v 8, false), (.v 7, true), (.v 6, false)], [.v 16]⟩)
  (.leaf ⟨[(15, .bool, .cmp .eql (.v 1) (.c 2210141511517208575)),
    (14, .bool, .cmp .lss (.v 1) (.c 2210141511517208575)),
    (13, .bool, .cmp .eql (.v 2) (.c 7435674573564081700)),
    (12, .bool, .cmp .lss (.v 2) (.c 7435674573564081700)),
    (11, .bool, .cmp .eql (.v 3) (.c 7239337960414712511)),
    (10, .bool, .cmp .lss (.v 3) (.c 7239337960414712511)),
    (9, .bool, .cmp .eql (.v 4) (.c 5412103778470702295)),
    (8, .bool, .cmp .lss (.v 4) (.c 5412103778470702295)),
    (7, .bool, .cmp .eql (.v 5) (.c 1873798617647539866)),
    (6, .bool, .cmp .lss (.v 5) (.c 1873798617647539866))],
    [(.v 15, false), (.v 14, false), (.v 13, true), (.v 12, false), (.v 11, true), (.v 10, false), (.v 9, true), (.v 8, false), (.v 7, true), (.v 6, false)], [.c 0]⟩)))
  (.leaf ⟨[(13, .bool, .cmp .eql (.v 2) (.c 7435674573564081700)),
    (12, .bool, .cmp .lss (.v 2) (.c 7435674573564081700)),
    (11, .bool, .cmp .eql (.v 3) (.c 7239337960414712511)),
    (10, .bool, .cmp .lss (.v 3) (.c 7239337960414712511)),
    (9, .bool, .cmp .eql (.v 4) (.c 5412103778470702295)),
    (8, .bool, .cmp .lss (.v 4) (.c 5412103778470702295)),
    (7, .bool, .cmp .eql (.v 5) (.c 1873798617647539866)),
    (6, .bool, .cmp .lss (.v 5) (.c 1873798617647539866))],
    [(.v 13, false), (.v 12, false), (.v 11, true), (.v 10, false), (.v 9, true), (.v 8, false), (.v 7, true), (.v 6, false)], [.c 0]⟩)))
  (.leaf ⟨[(11, .bool, .cmp .eql (.v 3) (.c 7239337960414712511)),
    (10, .bool, .cmp .lss (.v 3) (.c 7239337960414712511)),
    (9, .bool, .cmp .eql (.v 4) (.c 5412103778470702295)),
    (8, .bool, .cmp .lss (.v 4) (.c 5412103778470702295)),
    (7, .bool, .cmp .eql (.v 5) (.c 1873798617647539866)),
    (6, .bool, .cmp .lss (.v 5) (.c 1873798617647539866))],
    [(.v 11, false), (.v 10, false), (.v 9, true), (.v 8, false), (.v 7, true), (.v 6, false)], [.c 0]⟩)))
  (.leaf ⟨[(9, .bool, .cmp .eql (.v 4) (.c 5412103778470702295)),
    (8, .bool, .cmp .lss (.v 4) (.c 5412103778470702295)),
    (7, .bool, .cmp .eql (.v 5) (.c 1873798617647539866)),
    (6, .bool, .cmp .lss (.v 5) (.c 1873798617647539866))],
    [(.v 9, false), (.v 8, false), (.v 7, true), (.v 6, false)], [.c 0]⟩)))
  (.leaf ⟨[(7, .bool, .cmp .eql (.v 5) (.c 1873798617647539866)),
    (6, .bool, .cmp .lss (.v 5) (.c 1873798617647539866))],
    [(.v 7, false), (.v 6, false)], [.c 0]⟩))
theorem chk_small : checkFn Try.prog [] su_small 400 Try.f41 (fun _ => t_small0) = true := by kernel_rfl
theorem ok_small : SummOK Try.prog 41 su_small (Phi 41) := by
  refine summ_fn (Φ := Phi) 400 (fun _ => t_small0) Try.func41 tbl_nil chk_small ?_
  intro al hal l hl ρ hk hs ha
  have hn : su_small.inKinds.length = 6 := rfl
  have hr : row ρ 6 = [ρ 0, ρ 1, ρ 2, ρ 3, ρ 4, ρ 5] := rfl
  rw [hn, hr] at hk ⊢
  simp only [su_small, Summ.inKinds, List.flatMap_cons, List.flatMap_nil, List.replicate, List.cons_append, List.nil_append, List.append_nil, holdsAll, K.holds] at hk
  obtain ⟨b0, b1, b2, b3, b4, b5, _⟩ := hk
  simp only [t_small0, CT.leaves, List.cons_append, List.nil_append, List.mem_cons, List.not_mem_nil, or_false] at hl
  rcases hl with rfl | rfl | rfl | rfl | rfl | rfl | rfl | rfl | rfl | rfl | rfl
  · simp only [satTr_cons, satTr_nil, sv_lss, sv_leq, sv_gtr, sv_geq, sv_eql, sv_neq, sv_not, sv_beq, sv_pick, sv_add, sv_sub, sv_fn, sv_eqs, E.den, List.map, K.holds] at hs
    simp only [asrOK_cons, asrOK_nil, if_true, if_false, Bool.false_eq_true, E.den] at ha
    obtain ⟨⟨h6, k6⟩, _⟩ := hs
    obtain ⟨a0, _⟩ := ha
    refine dec_one (p := val [ρ 0, ρ 1, ρ 2, ρ 3, ρ 4, ρ 5] < q) (z := 1) ?_
    simp only [val, q, List.cons.injEq, and_true]
    omega
  · simp only [satTr_cons, satTr_nil, sv_lss, sv_leq, sv_gtr, sv_geq, sv_eql, sv_neq, sv_not, sv_beq, sv_pick, sv_add, sv_sub, sv_fn, sv_eqs, E.den, List.map, K.holds] at hs
    simp only [asrOK_cons, asrOK_nil, if_true, if_false, Bool.false_eq_true, E.den] at ha
    obtain ⟨⟨h8, k8⟩, ⟨h7, k7⟩, ⟨h6, k6⟩, _⟩ := hs
    obtain ⟨a0, a1, a2, _⟩ := ha
    refine dec_one (p := val [ρ 0, ρ 1, ρ 2, ρ 3, ρ 4, ρ 5] < q) (z := 1) ?_
    simp only [val, q, List.cons.injEq, and_true]
    omega
  · simp only [satTr_cons, satTr_nil, sv_lss, sv_leq, sv_gtr, sv_geq, sv_eql, sv_neq, sv_not, sv_beq, sv_pick, sv_add, sv_sub, sv_fn, sv_eqs, E.den, List.map, K.holds] at hs
    simp only [asrOK_cons, asrOK_nil, if_true, if_false, Bool.false_eq_true, E.den] at ha
    obtain ⟨⟨h10, k10⟩, ⟨h9, k9⟩, ⟨h8, k8⟩, ⟨h7, k7⟩, ⟨h6, k6⟩, _⟩ := hs
    obtain ⟨a0, a1, a2, a3, a4, _⟩ := ha
    refine dec_one (p := val [ρ 0, ρ 1, ρ 2, ρ 3, ρ 4, ρ 5] < q) (z := 1) ?_
    simp only [val, q, List.cons.injEq, and_true]
    omega
  · simp only [satTr_cons, satTr_nil, sv_lss, sv_leq, sv_gtr, sv_geq, sv_eql, sv_neq, sv_not, sv_beq, sv_pick, sv_add, sv_sub, sv_fn, sv_eqs, E.den, List.map, K.holds] at hs
    simp only [asrOK_cons, asrOK_nil, if_true, if_false, Bool.false_eq_true, E.den] at ha
    obtain ⟨⟨h12, k12⟩, ⟨h11, k11⟩, ⟨h10, k10⟩, ⟨h9, k9⟩, ⟨h8, k8⟩, ⟨h7, k7⟩, ⟨h6, k6⟩, _⟩ := hs
    obtain ⟨a0, a1, a2, a3, a4, a5, a6, _⟩ := ha
    refine dec_one (p := val [ρ 0, ρ 1, ρ 2, ρ 3, ρ 4, ρ 5] < q) (z := 1) ?_
    simp only [val, q, List.cons.injEq, and_true]
    omega
  · simp only [satTr_cons, satTr_nil, sv_lss, sv_leq, sv_gtr, sv_geq, sv_eql, sv_neq, sv_not, sv_beq, sv_pick, sv_add, sv_sub, sv_fn, sv_eqs, E.den, List.map, K.holds] at hs
    simp only [asrOK_cons, asrOK_nil, if_true, if_false, Bool.false_eq_true, E.den] at ha
    obtain ⟨⟨h14, k14⟩, ⟨h13, k13⟩, ⟨h12, k12⟩, ⟨h11, k11⟩, ⟨h10, k10⟩, ⟨h9, k9⟩, ⟨h8, k8⟩, ⟨h7, k7⟩, ⟨h6, k6⟩, _⟩ := hs
    obtain ⟨a0, a1, a2, a3, a4, a5, a6, a7, a8, _⟩ := ha
    refine dec_one (p := val [ρ 0, ρ 1, ρ 2, ρ 3, ρ 4, ρ 5] < q) (z := 1) ?_
    simp only [val, q, List.cons.injEq, and_true]
    omega
  · simp only [satTr_cons, satTr_nil, sv_lss, sv_leq, sv_gtr, sv_geq, sv_eql, sv_neq, sv_not, sv_beq, sv_pick, sv_add, sv_sub, sv_fn, sv_eqs, E.den, List.map, K.holds] at hs
    simp only [asrOK_cons, asrOK_nil, if_true, if_false, Bool.false_eq_true, E.den] at ha
    obtain ⟨⟨h16, k16⟩, ⟨h15, k15⟩, ⟨h14, k14⟩, ⟨h13, k13⟩, ⟨h12, k12⟩, ⟨h11, k11⟩, ⟨h10, k10⟩, ⟨h9, k9⟩, ⟨h8, k8⟩, ⟨h7, k7⟩, ⟨h6, k6⟩, _⟩ := hs
    obtain ⟨a0, a1, a2, a3, a4, a5, a6, a7, a8, a9, _⟩ := ha
    refine dec_one (p := val [ρ 0, ρ 1, ρ 2, ρ 3, ρ 4, ρ 5] < q) (z := ρ 16) ?_
    simp only [val, q, List.cons.injEq, and_true]
    omega
  · simp only [satTr_cons, satTr_nil, sv_lss, sv_leq, sv_gtr, sv_geq, sv_eql, sv_neq, sv_not, sv_beq, sv_pick, sv_add, sv_sub, sv_fn, sv_eqs, E.den, List.map, K.holds] at hs
    simp only [asrOK_cons, asrOK_nil, if_true, if_false, Bool.false_eq_true, E.den] at ha
    obtain ⟨⟨h15, k15⟩, ⟨h14, k14⟩, ⟨h13, k13⟩, ⟨h12, k12⟩, ⟨h11, k11⟩, ⟨h10, k10⟩, ⟨h9, k9⟩, ⟨h8, k8⟩, ⟨h7, k7⟩, ⟨h6, k6⟩, _⟩ := hs
    obtain ⟨a0, a1, a2, a3, a4, a5, a6, a7, a8, a9, _⟩ := ha
    refine dec_one (p := val [ρ 0, ρ 1, ρ 2, ρ 3, ρ 4, ρ 5] < q) (z := 0) ?_
    simp only [val, q, List.cons.injEq, and_true]
    omega
  · simp only [satTr_cons, satTr_nil, sv_lss, sv_leq, sv_gtr, sv_geq, sv_eql, sv_neq, sv_not, sv_beq, sv_pick, sv_add, sv_sub, sv_fn, sv_eqs, E.den, List.map, K.holds] at hs
    simp only [asrOK_cons, asrOK_nil, if_true, if_false, Bool.false_eq_true, E.den] at ha
    obtain ⟨⟨h13, k13⟩, ⟨h12, k12⟩, ⟨h11, k11⟩, ⟨h10, k10⟩, ⟨h9, k9⟩, ⟨h8, k8⟩, ⟨h7, k7⟩, ⟨h6, k6⟩, _⟩ := hs
    obtain ⟨a0, a1, a2, a3, a4, a5, a6, a7, _⟩ := ha
    refine dec_one (p := val [ρ 0, ρ 1, ρ 2, ρ 3, ρ 4, ρ 5] < q) (z := 0) ?_
    simp only [val, q, List.cons.injEq, and_true]
    omega
  · simp only [satTr_cons, satTr_nil, sv_lss, sv_leq, sv_gtr, sv_geq, sv_eql, sv_neq, sv_not, sv_beq, sv_pick, sv_add, sv_sub, sv_fn, sv_eqs, E.den, List.map, K.holds] at hs
    simp only [asrOK_cons, asrOK_nil, if_true, if_false, Bool.false_eq_true, E.den] at ha
    obtain ⟨⟨h11, k11⟩, ⟨h10, k10⟩, ⟨h9, k9⟩, ⟨h8, k8⟩, ⟨h7, k7⟩, ⟨h6, k6⟩, _⟩ := hs
    obtain ⟨a0, a1, a2, a3, a4, a5, _⟩ := ha
    refine dec_one (p := val [ρ 0, ρ 1, ρ 2, ρ 3, ρ 4, ρ 5] < q) (z := 0) ?_
    simp only [val, q, List.cons.injEq, and_true]
    omega
  · simp only [satTr_cons, satTr_nil, sv_lss, sv_leq, sv_gtr, sv_geq, sv_eql, sv_neq, sv_not, sv_beq, sv_pick, sv_add, sv_sub, sv_fn, sv_eqs, E.den, List.map, K.holds] at hs
    simp only [asrOK_cons, asrOK_nil, if_true, if_false, Bool.false_eq_true, E.den] at ha
    obtain ⟨⟨h9, k9⟩, ⟨h8, k8⟩, ⟨h7, k7⟩, ⟨h6, k6⟩, _⟩ := hs
    obtain ⟨a0, a1, a2, a3, _⟩ := ha
    refine dec_one (p := val [ρ 0, ρ 1, ρ 2, ρ 3, ρ 4, ρ 5] < q) (z := 0) ?_
    simp only [val, q, List.cons.injEq, and_true]
    omega
  · simp only [satTr_cons, satTr_nil, sv_lss, sv_leq, sv_gtr, sv_geq, sv_eql, sv_neq, sv_not, sv_beq, sv_pick, sv_add, sv_sub, sv_fn, sv_eqs, E.den, List.map, K.holds] at hs
    simp only [asrOK_cons, asrOK_nil, if_true, if_false, Bool.false_eq_true, E.den] at ha
    obtain ⟨⟨h7, k7⟩, ⟨h6, k6⟩, _⟩ := hs
    obtain ⟨a0, a1, _⟩ := ha
    refine dec_one (p := val [ρ 0, ρ 1, ρ 2, ρ 3, ρ 4, ρ 5] < q) (z := 0) ?_
    simp only [val, q, List.cons.injEq, and_true]
    omega

/-! ### add -/
def su_add : Summ := ⟨[.ptr 6, .ptr 6, .ptr 6], (some 0), [.arg 0]⟩
def t_add0 : CT := .leaf ⟨[(49, .i .u64, .pick (.v 31) (.v 42) (.v 28)),
    (48, .i .u64, .pick (.v 31) (.v 40) (.v 26)),
    (47, .i .u64, .pick (.v 31) (.v 38) (.v 24)),
    (46, .i .u64, .pick (.v 31) (.v 36) (.v 22)),
    (45, .i .u64, .pick (.v 31) (.v 34) (.v 20)),
    (44, .i .u64, .pick (.v 31) (.v 32) (.v 18)),
    (43, .bit, .fn 39 [.v 28, .c 1873798617647539866, .v 41] 1),
    (42, .i .u64, .fn 39 [.v 28, .c 1873798617647539866, .v 41] 0),
    (41, .bit, .fn 39 [.v 26, .c 5412103778470702295, .v 39] 1),
    (40, .i .u64, .fn 39 [.v 26, .c 5412103778470702295, .v 39] 0),
    (39, .bit, .fn 39 [.v 24, .c 7239337960414712511, .v 37] 1),
    (38, .i .u64, .fn 39 [.v 24, .c 7239337960414712511, .v 37] 0),
    (37, .bit, .fn 39 [.v 22, .c 7435674573564081700, .v 35] 1),
    (36, .i .u64, .fn 39 [.v 22, .c 7435674573564081700, .v 35] 0),
    (35, .bit, .fn 39 [.v 20, .c 2210141511517208575, .v 33] 1),
    (34, .i .u64, .fn 39 [.v 20, .c 2210141511517208575, .v 33] 0),
    (33, .bit, .fn 39 [.v 18, .c 13402431016077863595, .c 0] 1),
    (32, .i .u64, .fn 39 [.v 18, .c 13402431016077863595, .c 0] 0),
    (31, .bool, .not (.v 30)),
    (30, .bool, .fn 41 [.v 18, .v 20, .v 22, .v 24, .v 26, .v 28] 0),
    (29, .bit, .fn 40 [.v 11, .v 17, .v 27] 1),
    (28, .i .u64, .fn 40 [.v 11, .v 17, .v 27] 0),
    (27, .bit, .fn 40 [.v 10, .v 16, .v 25] 1),
    (26, .i .u64, .fn 40 [.v 10, .v 16, .v 25] 0),
    (25, .bit, .fn 40 [.v 9, .v 15, .v 23] 1),
    (24, .i .u64, .fn 40 [.v 9, .v 15, .v 23] 0),
    (23, .bit, .fn 40 [.v 8, .v 14, .v 21] 1),
    (22, .i .u64, .fn 40 [.v 8, .v 14, .v 21] 0),
    (21, .bit, .fn 40 [.v 7, .v 13, .v 19] 1),
    (20, .i .u64, .fn 40 [.v 7, .v 13, .v 19] 0),
    (19, .bit, .fn 40 [.v 6, .v 12, .c 0] 1),
    (18, .i .u64, .fn 40 [.v 6, .v 12, .c 0] 0)],
    [], [.v 44, .v 45, .v 46, .v 47, .v 48, .v 49]⟩
theorem chk_add : checkFn Try.prog [(40, addSub), (39, addSub), (41, su_small)] su_add 400 Try.f31 (fun _ => t_add0) = true := by kernel_rfl
theorem ok_add : SummOK Try.prog 31 su_add (Phi 31) := by
  refine summ_fn (Φ := Phi) 400 (fun _ => t_add0) Try.func31 (tbl_cons ok_add64 (tbl_cons ok_sub64 (tbl_cons ok_small tbl_nil))) chk_add ?_
  intro al hal l hl ρ hk hs ha
  have hn : su_add.inKinds.length = 18 := rfl
  have hr : row ρ 18 = [ρ 0, ρ 1, ρ 2, ρ 3, ρ 4, ρ 5, ρ 6, ρ 7, ρ 8, ρ 9, ρ 10, ρ 11, ρ 12, ρ 13, ρ 14, ρ 15, ρ 16, ρ 17] := rfl
  rw [hn, hr] at hk ⊢
  simp only [su_add, Summ.inKinds, List.flatMap_cons, List.flatMap_nil, List.replicate, List.cons_append, List.nil_append, List.append_nil, holdsAll, K.holds] at hk
  obtain ⟨b0, b1, b2, b3, b4, b5, b6, b7, b8, b9, b10, b11, b12, b13, b14, b15, b16, b17, _⟩ := hk
  simp only [t_add0, CT.leaves, List.cons_append, List.nil_append, List.mem_cons, List.not_mem_nil, or_false] at hl
  subst hl
  simp only [satTr_cons, satTr_nil, sv_lss, sv_leq, sv_gtr, sv_geq, sv_eql, sv_neq, sv_not, sv_beq, sv_pick, sv_add, sv_sub, sv_fn, sv_eqs, E.den, List.map, K.holds] at hs
  simp only [asrOK_cons, asrOK_nil, if_true, if_false, Bool.false_eq_true, E.den] at ha
  obtain ⟨⟨h49, k49⟩, ⟨h48, k48⟩, ⟨h47, k47⟩, ⟨h46, k46⟩, ⟨h45, k45⟩, ⟨h44, k44⟩, ⟨h43, k43⟩, ⟨h42, k42⟩, ⟨h41, k41⟩, ⟨h40, k40⟩, ⟨h39, k39⟩, ⟨h38, k38⟩, ⟨h37, k37⟩, ⟨h36, k36⟩, ⟨h35, k35⟩, ⟨h34, k34⟩, ⟨h33, k33⟩, ⟨h32, k32⟩, ⟨h31, k31⟩, ⟨h30, k30⟩, ⟨h29, k29⟩, ⟨h28, k28⟩, ⟨h27, k27⟩, ⟨h26, k26⟩, ⟨h25, k25⟩, ⟨h24, k24⟩, ⟨h23, k23⟩, ⟨h22, k22⟩, ⟨h21, k21⟩, ⟨h20, k20⟩, ⟨h19, k19⟩, ⟨h18, k18⟩, _⟩ := hs
  clear ha
  have r18 : ρ 18 + 18446744073709551616 * ρ 19 = ρ 6 + ρ 12 + 0 := adc h18 h19
  have r20 : ρ 20 + 18446744073709551616 * ρ 21 = ρ 7 + ρ 13 + ρ 19 := adc h20 h21
  have r22 : ρ 22 + 18446744073709551616 * ρ 23 = ρ 8 + ρ 14 + ρ 21 := adc h22 h23
  have r24 : ρ 24 + 18446744073709551616 * ρ 25 = ρ 9 + ρ 15 + ρ 23 := adc h24 h25
  have r26 : ρ 26 + 18446744073709551616 * ρ 27 = ρ 10 + ρ 16 + ρ 25 := adc h26 h27
  have r28 : ρ 28 + 18446744073709551616 * ρ 29 = ρ 11 + ρ 17 + ρ 27 := adc h28 h29
  have e30 : ρ 30 = b2i (decide (val [ρ 18, ρ 20, ρ 22, ρ 24, ρ 26, ρ 28] < q)) := h30
  rw [st_dec] at e30
  have r32 : ρ 32 - 18446744073709551616 * ρ 33 = ρ 18 - 13402431016077863595 - 0 := sbb k18 (by decide) (by decide) h32 h33
  have r34 : ρ 34 - 18446744073709551616 * ρ 35 = ρ 20 - 2210141511517208575 - ρ 33 := sbb k20 (by decide) k33 h34 h35
  have r36 : ρ 36 - 18446744073709551616 * ρ 37 = ρ 22 - 7435674573564081700 - ρ 35 := sbb k22 (by decide) k35 h36 h37
  have r38 : ρ 38 - 18446744073709551616 * ρ 39 = ρ 24 - 7239337960414712511 - ρ 37 := sbb k24 (by decide) k37 h38 h39
  have r40 : ρ 40 - 18446744073709551616 * ρ 41 = ρ 26 - 5412103778470702295 - ρ 39 := sbb k26 (by decide) k39 h40 h41
  have r42 : ρ 42 - 18446744073709551616 * ρ 43 = ρ 28 - 1873798617647539866 - ρ 41 := sbb k28 (by decide) k41 h42 h43
  change wds 6 (eAdd 6 q (val [ρ 6, ρ 7, ρ 8, ρ 9, ρ 10, ρ 11]) (val [ρ 12, ρ 13, ρ 14, ρ 15, ρ 16, ρ 17])) = [ρ 44, ρ 45, ρ 46, ρ 47, ρ 48, ρ 49]
  refine add_done (S := [ρ 18, ρ 20, ρ 22, ρ 24, ρ 26, ρ 28]) (D := [ρ 32, ρ 34, ρ 36, ρ 38, ρ 40, ρ 42]) (c := ρ 29) (d := ρ 43) (u64s_cons k18 (u64s_cons k20 (u64s_cons k22 (u64s_cons k24 (u64s_cons k26 (u64s_cons k28 u64s_nil)))))) rfl (u64s_cons k32 (u64s_cons k34 (u64s_cons k36 (u64s_cons k38 (u64s_cons k40 (u64s_cons k42 u64s_nil)))))) rfl ?_ h30 h31 ?_ ?_
  · simp only [val, big]; clear e30; omega
  · simp only [val, big, q]; clear e30; omega
  · by_cases hz : ρ 31 = 0
    · left; refine ⟨hz, ?_⟩; simp only [hz, true_and, ne_eq, not_true_eq_false, false_and, or_false] at h44 h45 h46 h47 h48 h49; rw [h44, h45, h46, h47, h48, h49]
    · right; refine ⟨hz, ?_⟩; simp only [hz, false_and, ne_eq, not_false_eq_true, true_and, false_or] at h44 h45 h46 h47 h48 h49; rw [h44, h45, h46, h47, h48, h49]

/-! ### dbl -/
def su_dbl : Summ := ⟨[.ptr 6, .ptr 6], (some 0), [.arg 0]⟩
def t_dbl0 : CT := .leaf ⟨[(43, .i .u64, .pick (.v 25) (.v 36) (.v 22)),
    (42, .i .u64, .pick (.v 25) (.v 34) (.v 20)),
    (41, .i .u64, .pick (.v 25) (.v 32) (.v 18)),
    (40, .i .u64, .pick (.v 25) (.v 30) (.v 16)),
    (39, .i .u64, .pick (.v 25) (.v 28) (.v 14)),
    (38, .i .u64, .pick (.v 25) (.v 26) (.v 12)),
    (37, .bit, .fn 39 [.v 22, .c 1873798617647539866, .v 35] 1),
    (36, .i .u64, .fn 39 [.v 22, .c 1873798617647539866, .v 35] 0),
    (35, .bit, .fn 39 [.v 20, .c 5412103778470702295, .v 33] 1),
    (34, .i .u64, .fn 39 [.v 20, .c 5412103778470702295, .v 33] 0),
    (33, .bit, .fn 39 [.v 18, .c 7239337960414712511, .v 31] 1),
    (32, .i .u64, .fn 39 [.v 18, .c 7239337960414712511, .v 31] 0),
    (31, .bit, .fn 39 [.v 16, .c 7435674573564081700, .v 29] 1),
    (30, .i .u64, .fn 39 [.v 16, .c 7435674573564081700, .v 29] 0),
    (29, .bit, .fn 39 [.v 14, .c 2210141511517208575, .v 27] 1),
    (28, .i .u64, .fn 39 [.v 14, .c 2210141511517208575, .v 27] 0),
    (27, .bit, .fn 39 [.v 12, .c 13402431016077863595, .c 0] 1),
    (26, .i .u64, .fn 39 [.v 12, .c 13402431016077863595, .c 0] 0),
    (25, .bool, .not (.v 24)),
    (24, .bool, .fn 41 [.v 12, .v 14, .v 16, .v 18, .v 20, .v 22] 0),
    (23, .bit, .fn 40 [.v 11, .v 11, .v 21] 1),
    (22, .i .u64, .fn 40 [.v 11, .v 11, .v 21] 0),
    (21, .bit, .fn 40 [.v 10, .v 10, .v 19] 1),
    (20, .i .u64, .fn 40 [.v 10, .v 10, .v 19] 0),
    (19, .bit, .fn 40 [.v 9, .v 9, .v 17] 1),
    (18, .i .u64, .fn 40 [.v 9, .v 9, .v 17] 0),
    (17, .bit, .fn 40 [.v 8, .v 8, .v 15] 1),
    (16, .i .u64, .fn 40 [.v 8, .v 8, .v 15] 0),
    (15, .bit, .fn 40 [.v 7, .v 7, .v 13] 1),
    (14, .i .u64, .fn 40 [.v 7, .v 7, .v 13] 0),
    (13, .bit, .fn 40 [.v 6, .v 6, .c 0] 1),
    (12, .i .u64, .fn 40 [.v 6, .v 6, .c 0] 0)],
    [], [.v 38, .v 39, .v 40, .v 41, .v 42, .v 43]⟩
theorem chk_dbl : checkFn Try.prog [(40, addSub), (39, addSub), (41, su_small)] su_dbl 400 Try.f42 (fun _ => t_dbl0) = true := by kernel_rfl
theorem ok_dbl : SummOK Try.prog 42 su_dbl (Phi 42) := by
  refine summ_fn (Φ := Phi) 400 (fun _ => t_dbl0) Try.func42 (tbl_cons ok_add64 (tbl_cons ok_sub64 (tbl_cons ok_small tbl_nil))) chk_dbl ?_
  intro al hal l hl ρ hk hs ha
  have hn : su_dbl.inKinds.length = 12 := rfl
  have hr : row ρ 12 = [ρ 0, ρ 1, ρ 2, ρ 3, ρ 4, ρ 5, ρ 6, ρ 7, ρ 8, ρ 9, ρ 10, ρ 11] := rfl
  rw [hn, hr] at hk ⊢
  simp only [su_dbl, Summ.inKinds, List.flatMap_cons, List.flatMap_nil, List.replicate, List.cons_append, List.nil_append, List.append_nil, holdsAll, K.holds] at hk
  obtain ⟨b0, b1, b2, b3, b4, b5, b6, b7, b8, b9, b10, b11, _⟩ := hk
  simp only [t_dbl0, CT.leaves, List.cons_append, List.nil_append, List.mem_cons, List.not_mem_nil, or_false] at hl
  subst hl
  simp only [satTr_cons, satTr_nil, sv_lss, sv_leq, sv_gtr, sv_geq, sv_eql, sv_neq, sv_not, sv_beq, sv_pick, sv_add, sv_sub, sv_fn, sv_eqs, E.den, List.map, K.holds] at hs
  simp only [asrOK_cons, asrOK_nil, if_true, if_false, Bool.false_eq_true, E.den] at ha
  obtain ⟨⟨h43, k43⟩, ⟨h42, k42⟩, ⟨h41, k41⟩, ⟨h40, k40⟩, ⟨h39, k39⟩, ⟨h38, k38⟩, ⟨h37, k37⟩, ⟨h36, k36⟩, ⟨h35, k35⟩, ⟨h34, k34⟩, ⟨h33, k33⟩, ⟨h32, k32⟩, ⟨h31, k31⟩, ⟨h30, k30⟩, ⟨h29, k29⟩, ⟨h28, k28⟩, ⟨h27, k27⟩, ⟨h26, k26⟩, ⟨h25, k25⟩, ⟨h24, k24⟩, ⟨h23, k23⟩, ⟨h22, k22⟩, ⟨h21, k21⟩, ⟨h20, k20⟩, ⟨h19, k19⟩, ⟨h18, k18⟩, ⟨h17, k17⟩, ⟨h16, k16⟩, ⟨h15, k15⟩, ⟨h14, k14⟩, ⟨h13, k13⟩, ⟨h12, k12⟩, _⟩ := hs
  clear ha
  have r12 : ρ 12 + 18446744073709551616 * ρ 13 = ρ 6 + ρ 6 + 0 := adc h12 h13
  have r14 : ρ 14 + 18446744073709551616 * ρ 15 = ρ 7 + ρ 7 + ρ 13 := adc h14 h15
  have r16 : ρ 16 + 18446744073709551616 * ρ 17 = ρ 8 + ρ 8 + ρ 15 := adc h16 h17
  have r18 : ρ 18 + 18446744073709551616 * ρ 19 = ρ 9 + ρ 9 + ρ 17 := adc h18 h19
  have r20 : ρ 20 + 18446744073709551616 * ρ 21 = ρ 10 + ρ 10 + ρ 19 := adc h20 h21
  have r22 : ρ 22 + 18446744073709551616 * ρ 23 = ρ 11 + ρ 11 + ρ 21 := adc h22 h23
  have e24 : ρ 24 = b2i (decide (val [ρ 12, ρ 14, ρ 16, ρ 18, ρ 20, ρ 22] < q)) := h24
  rw [st_dec] at e24
  have r26 : ρ 26 - 18446744073709551616 * ρ 27 = ρ 12 - 13402431016077863595 - 0 := sbb k12 (by decide) (by decide) h26 h27
  have r28 : ρ 28 - 18446744073709551616 * ρ 29 = ρ 14 - 2210141511517208575 - ρ 27 := sbb k14 (by decide) k27 h28 h29
  have r30 : ρ 30 - 18446744073709551616 * ρ 31 = ρ 16 - 7435674573564081700 - ρ 29 := sbb k16 (by decide) k29 h30 h31
  have r32 : ρ 32 - 18446744073709551616 * ρ 33 = ρ 18 - 7239337960414712511 - ρ 31 := sbb k18 (by decide) k31 h32 h33
  have r34 : ρ 34 - 18446744073709551616 * ρ 35 = ρ 20 - 5412103778470702295 - ρ 33 := sbb k20 (by decide) k33 h34 h35
  have r36 : ρ 36 - 18446744073709551616 * ρ 37 = ρ 22 - 1873798617647539866 - ρ 35 := sbb k22 (by decide) k35 h36 h37
  change wds 6 (eAdd 6 q (val [ρ 6, ρ 7, ρ 8, ρ 9, ρ 10, ρ 11]) (val [ρ 6, ρ 7, ρ 8, ρ 9, ρ 10, ρ 11])) = [ρ 38, ρ 39, ρ 40, ρ 41, ρ 42, ρ 43]
  refine add_done (S := [ρ 12, ρ 14, ρ 16, ρ 18, ρ 20, ρ 22]) (D := [ρ 26, ρ 28, ρ 30, ρ 32, ρ 34, ρ 36]) (c := ρ 23) (d := ρ 37) (u64s_cons k12 (u64s_cons k14 (u64s_cons k16 (u64s_cons k18 (u64s_cons k20 (u64s_cons k22 u64s_nil)))))) rfl (u64s_cons k26 (u64s_cons k28 (u64s_cons k30 (u64s_cons k32 (u64s_cons k34 (u64s_cons k36 u64s_nil)))))) rfl ?_ h24 h25 ?_ ?_
  · simp only [val, big]; clear e24; omega
  · simp only [val, big, q]; clear e24; omega
  · by_cases hz : ρ 25 = 0
    · left; refine ⟨hz, ?_⟩; simp only [hz, true_and, ne_eq, not_true_eq_false, false_and, or_false] at h38 h39 h40 h41 h42 h43; rw [h38, h39, h40, h41, h42, h43]
    · right; refine ⟨hz, ?_⟩; simp only [hz, false_and, ne_eq, not_false_eq_true, true_and, false_or] at h38 h39 h40 h41 h42 h43; rw [h38, h39, h40, h41, h42, h43]

/-! ### mul5 -/
def su_mul5 : Summ := ⟨[.ptr 6], (some 0), []⟩
def t_mul50 : CT := .leaf ⟨[(23, .i .u64, .fn 31 [.v 12, .v 13, .v 14, .v 15, .v 16, .v 17, .v 12, .v 13, .v 14, .v 15, .v 16, .v 17, .v 0, .v 1, .v 2, .v 3, .v 4, .v 5] 5),
    (22, .i .u64, .fn 31 [.v 12, .v 13, .v 14, .v 15, .v 16, .v 17, .v 12, .v 13, .v 14, .v 15, .v 16, .v 17, .v 0, .v 1, .v 2, .v 3, .v 4, .v 5] 4),
    (21, .i .u64, .fn 31 [.v 12, .v 13, .v 14, .v 15, .v 16, .v 17, .v 12, .v 13, .v 14, .v 15, .v 16, .v 17, .v 0, .v 1, .v 2, .v 3, .v 4, .v 5] 3),
    (20, .i .u64, .fn 31 [.v 12, .v 13, .v 14, .v 15, .v 16, .v 17, .v 12, .v 13, .v 14, .v 15, .v 16, .v 17, .v 0, .v 1, .v 2, .v 3, .v 4, .v 5] 2),
    (19, .i .u64, .fn 31 [.v 12, .v 13, .v 14, .v 15, .v 16, .v 17, .v 12, .v 13, .v 14, .v 15, .v 16, .v 17, .v 0, .v 1, .v 2, .v 3, .v 4, .v 5] 1),
    (18, .i .u64, .fn 31 [.v 12, .v 13, .v 14, .v 15, .v 16, .v 17, .v 12, .v 13, .v 14, .v 15, .v 16, .v 17, .v 0, .v 1, .v 2, .v 3, .v 4, .v 5] 0),
    (17, .i .u64, .fn 42 [.v 6, .v 7, .v 8, .v 9, .v 10, .v 11, .v 6, .v 7, .v 8, .v 9, .v 10, .v 11] 5),
    (16, .i .u64, .fn 42 [.v 6, .v 7, .v 8, .v 9, .v 10, .v 11, .v 6, .v 7, .v 8, .v 9, .v 10, .v 11] 4),
    (15, .i .u64, .fn 42 [.v 6, .v 7, .v 8, .v 9, .v 10, .v 11, .v 6, .v 7, .v 8, .v 9, .v 10, .v 11] 3),
    (14, .i .u64, .fn 42 [.v 6, .v 7, .v 8, .v 9, .v 10, .v 11, .v 6, .v 7, .v 8, .v 9, .v 10, .v 11] 2),
    (13, .i .u64, .fn 42 [.v 6, .v 7, .v 8, .v 9, .v 10, .v 11, .v 6, .v 7, .v 8, .v 9, .v 10, .v 11] 1),
    (12, .i .u64, .fn 42 [.v 6, .v 7, .v 8, .v 9, .v 10, .v 11, .v 6, .v 7, .v 8, .v 9, .v 10, .v 11] 0),
    (11, .i .u64, .fn 42 [.v 0, .v 1, .v 2, .v 3, .v 4, .v 5, .v 0, .v 1, .v 2, .v 3, .v 4, .v 5] 5),
    (10, .i .u64, .fn 42 [.v 0, .v 1, .v 2, .v 3, .v 4, .v 5, .v 0, .v 1, .v 2, .v 3, .v 4, .v 5] 4),
    (9, .i .u64, .fn 42 [.v 0, .v 1, .v 2, .v 3, .v 4, .v 5, .v 0, .v 1, .v 2, .v 3, .v 4, .v 5] 3),
    (8, .i .u64, .fn 42 [.v 0, .v 1, .v 2, .v 3, .v 4, .v 5, .v 0, .v 1, .v 2, .v 3, .v 4, .v 5] 2),
    (7, .i .u64, .fn 42 [.v 0, .v 1, .v 2, .v 3, .v 4, .v 5, .v 0, .v 1, .v 2, .v 3, .v 4, .v 5] 1),
    (6, .i .u64, .fn 42 [.v 0, .v 1, .v 2, .v 3, .v 4, .v 5, .v 0, .v 1, .v 2, .v 3, .v 4, .v 5] 0)],
    [], [.v 18, .v 19, .v 20, .v 21, .v 22, .v 23]⟩
theorem chk_mul5 : checkFn Try.prog [(31, su_add), (42, su_dbl)] su_mul5 400 Try.f33 (fun _ => t_mul50) = true := by kernel_rfl
theorem ok_mul5 : SummOK Try.prog 33 su_mul5 (Phi 33) := by
  refine summ_fn (Φ := Phi) 400 (fun _ => t_mul50) Try.func33 (tbl_cons ok_add (tbl_cons ok_dbl tbl_nil)) chk_mul5 ?_
  intro al hal l hl ρ hk hs ha
  have hn : su_mul5.inKinds.length = 6 := rfl
  have hr : row ρ 6 = [ρ 0, ρ 1, ρ 2, ρ 3, ρ 4, ρ 5] := rfl
  rw [hn, hr] at hk ⊢
  simp only [su_mul5, Summ.inKinds, List.flatMap_cons, List.flatMap_nil, List.replicate, List.cons_append, List.nil_append, List.append_nil, holdsAll, K.holds] at hk
  obtain ⟨b0, b1, b2, b3, b4, b5, _⟩ := hk
  simp only [t_mul50, CT.leaves, List.cons_append, List.nil_append, List.mem_cons, List.not_mem_nil, or_false] at hl
  subst hl
  simp only [satTr_cons, satTr_nil, sv_lss, sv_leq, sv_gtr, sv_geq, sv_eql, sv_neq, sv_not, sv_beq, sv_pick, sv_add, sv_sub, sv_fn, sv_eqs, E.den, List.map, K.holds] at hs
  simp only [asrOK_cons, asrOK_nil, if_true, if_false, Bool.false_eq_true, E.den] at ha
  obtain ⟨⟨h23, k23⟩, ⟨h22, k22⟩, ⟨h21, k21⟩, ⟨h20, k20⟩, ⟨h19, k19⟩, ⟨h18, k18⟩, ⟨h17, k17⟩, ⟨h16, k16⟩, ⟨h15, k15⟩, ⟨h14, k14⟩, ⟨h13, k13⟩, ⟨h12, k12⟩, ⟨h11, k11⟩, ⟨h10, k10⟩, ⟨h9, k9⟩, ⟨h8, k8⟩, ⟨h7, k7⟩, ⟨h6, k6⟩, _⟩ := hs
  clear ha
  have g6 : [ρ 6, ρ 7, ρ 8, ρ 9, ρ 10, ρ 11] = wds 6 (eAdd 6 q (val [ρ 0, ρ 1, ρ 2, ρ 3, ρ 4, ρ 5]) (val [ρ 0, ρ 1, ρ 2, ρ 3, ρ 4, ρ 5])) := get6 rfl h6 h7 h8 h9 h10 h11
  have g12 : [ρ 12, ρ 13, ρ 14, ρ 15, ρ 16, ρ 17] = wds 6 (eAdd 6 q (val [ρ 6, ρ 7, ρ 8, ρ 9, ρ 10, ρ 11]) (val [ρ 6, ρ 7, ρ 8, ρ 9, ρ 10, ρ 11])) := get6 rfl h12 h13 h14 h15 h16 h17
  have g18 : [ρ 18, ρ 19, ρ 20, ρ 21, ρ 22, ρ 23] = wds 6 (eAdd 6 q (val [ρ 12, ρ 13, ρ 14, ρ 15, ρ 16, ρ 17]) (val [ρ 0, ρ 1, ρ 2, ρ 3, ρ 4, ρ 5])) := get6 rfl h18 h19 h20 h21 h22 h23
  change mul5F 6 q [ρ 0, ρ 1, ρ 2, ρ 3, ρ 4, ρ 5] = [ρ 18, ρ 19, ρ 20, ρ 21, ρ 22, ρ 23]
  simp only [mul5F]
  rw [g18, g12, g6]

/-! ### iMul5 -/
def su_iMul5 : Summ := ⟨[.agg 6], none, [.agg 6]⟩
def t_iMul50 : CT := .leaf ⟨[(11, .i .u64, .fn 33 [.v 0, .v 1, .v 2, .v 3, .v 4, .v 5] 5),
    (10, .i .u64, .fn 33 [.v 0, .v 1, .v 2, .v 3, .v 4, .v 5] 4),
    (9, .i .u64, .fn 33 [.v 0, .v 1, .v 2, .v 3, .v 4, .v 5] 3),
    (8, .i .u64, .fn 33 [.v 0, .v 1, .v 2, .v 3, .v 4, .v 5] 2),
    (7, .i .u64, .fn 33 [.v 0, .v 1, .v 2, .v 3, .v 4, .v 5] 1),
    (6, .i .u64, .fn 33 [.v 0, .v 1, .v 2, .v 3, .v 4, .v 5] 0)],
    [], [.v 6, .v 7, .v 8, .v 9, .v 10, .v 11]⟩
theorem chk_iMul5 : checkFn Try.prog [(33, su_mul5)] su_iMul5 400 Try.f20 (fun _ => t_iMul50) = true := by kernel_rfl
theorem ok_iMul5 : SummOK Try.prog 20 su_iMul5 (Phi 20) := by
  refine summ_fn (Φ := Phi) 400 (fun _ => t_iMul50) Try.func20 (tbl_cons ok_mul5 tbl_nil) chk_iMul5 ?_
  intro al hal l hl ρ hk hs ha
  have hn : su_iMul5.inKinds.length = 6 := rfl
  have hr : row ρ 6 = [ρ 0, ρ 1, ρ 2, ρ 3, ρ 4, ρ 5] := rfl
  rw [hn, hr] at hk ⊢
  simp only [su_iMul5, Summ.inKinds, List.flatMap_cons, List.flatMap_nil, List.replicate, List.cons_append, List.nil_append, List.append_nil, holdsAll, K.holds] at hk
  obtain ⟨b0, b1, b2, b3, b4, b5, _⟩ := hk
  simp only [t_iMul50, CT.leaves, List.cons_append, List.nil_append, List.mem_cons, List.not_mem_nil, or_false] at hl
  subst hl
  simp only [satTr_cons, satTr_nil, sv_lss, sv_leq, sv_gtr, sv_geq, sv_eql, sv_neq, sv_not, sv_beq, sv_pick, sv_add, sv_sub, sv_fn, sv_eqs, E.den, List.map, K.holds] at hs
  simp only [asrOK_cons, asrOK_nil, if_true, if_false, Bool.false_eq_true, E.den] at ha
  obtain ⟨⟨h11, k11⟩, ⟨h10, k10⟩, ⟨h9, k9⟩, ⟨h8, k8⟩, ⟨h7, k7⟩, ⟨h6, k6⟩, _⟩ := hs
  clear ha
  have g6 : [ρ 6, ρ 7, ρ 8, ρ 9, ρ 10, ρ 11] = mul5F 6 q [ρ 0, ρ 1, ρ 2, ρ 3, ρ 4, ρ 5] := get6 rfl h6 h7 h8 h9 h10 h11
  exact g6.symm

/-! ### lMulBy5 -/
def su_lMulBy5 : Summ := ⟨[.agg 6], none, [.sc .bool]⟩
def t_lMulBy50 : CT := .node (.v 13)
  (.leaf ⟨[(13, .bool, .not (.v 12)),
    (12, .bool, .fn 9 [.v 0, .v 1, .v 2, .v 3, .v 4, .v 5, .v 6, .v 7, .v 8, .v 9, .v 10, .v 11] 0),
    (11, .i .u64, .fn 10 [] 5),
    (10, .i .u64, .fn 10 [] 4),
    (9, .i .u64, .fn 10 [] 3),
    (8, .i .u64, .fn 10 [] 2),
    (7, .i .u64, .fn 10 [] 1),
    (6, .i .u64, .fn 10 [] 0)],
    [(.v 13, true)], [.c 1]⟩)
  (.leaf ⟨[(32, .bool, .fn 13 [.v 14, .v 15, .v 16, .v 17, .v 18, .v 19, .v 26, .v 27, .v 28, .v 29, .v 30, .v 31] 0),
    (31, .i .u64, .fn 21 [.c 5, .v 0, .v 1, .v 2, .v 3, .v 4, .v 5, .v 20, .v 21, .v 22, .v 23, .v 24, .v 25] 5),
    (30, .i .u64, .fn 21 [.c 5, .v 0, .v 1, .v 2, .v 3, .v 4, .v 5, .v 20, .v 21, .v 22, .v 23, .v 24, .v 25] 4),
    (29, .i .u64, .fn 21 [.c 5, .v 0, .v 1, .v 2, .v 3, .v 4, .v 5, .v 20, .v 21, .v 22, .v 23, .v 24, .v 25] 3),
    (28, .i .u64, .fn 21 [.c 5, .v 0, .v 1, .v 2, .v 3, .v 4, .v 5, .v 20, .v 21, .v 22, .v 23, .v 24, .v 25] 2),
    (27, .i .u64, .fn 21 [.c 5, .v 0, .v 1, .v 2, .v 3, .v 4, .v 5, .v 20, .v 21, .v 22, .v 23, .v 24, .v 25] 1),
    (26, .i .u64, .fn 21 [.c 5, .v 0, .v 1, .v 2, .v 3, .v 4, .v 5, .v 20, .v 21, .v 22, .v 23, .v 24, .v 25] 0),
    (25, .i .u64, .fn 10 [] 5),
    (24, .i .u64, .fn 10 [] 4),
    (23, .i .u64, .fn 10 [] 3),
    (22, .i .u64, .fn 10 [] 2),
    (21, .i .u64, .fn 10 [] 1),
    (20, .i .u64, .fn 10 [] 0),
    (19, .i .u64, .fn 20 [.v 0, .v 1, .v 2, .v 3, .v 4, .v 5] 5),
    (18, .i .u64, .fn 20 [.v 0, .v 1, .v 2, .v 3, .v 4, .v 5] 4),
    (17, .i .u64, .fn 20 [.v 0, .v 1, .v 2, .v 3, .v 4, .v 5] 3),
    (16, .i .u64, .fn 20 [.v 0, .v 1, .v 2, .v 3, .v 4, .v 5] 2),
    (15, .i .u64, .fn 20 [.v 0, .v 1, .v 2, .v 3, .v 4, .v 5] 1),
    (14, .i .u64, .fn 20 [.v 0, .v 1, .v 2, .v 3, .v 4, .v 5] 0),
    (13, .bool, .not (.v 12)),
    (12, .bool, .fn 9 [.v 0, .v 1, .v 2, .v 3, .v 4, .v 5, .v 6, .v 7, .v 8, .v 9, .v 10, .v 11] 0),
    (11, .i .u64, .fn 10 [] 5),
    (10, .i .u64, .fn 10 [] 4),
    (9, .i .u64, .fn 10 [] 3),
    (8, .i .u64, .fn 10 [] 2),
    (7, .i .u64, .fn 10 [] 1),
    (6, .i .u64, .fn 10 [] 0)],
    [(.v 13, false)], [.v 32]⟩)
theorem chk_lMulBy5 : checkFn Try.prog [(9, su_less), (10, su_prime), (20, su_iMul5), (21, su_times), (13, su_same)] su_lMulBy5 400 Try.f6 (fun _ => t_lMulBy50) = true := by kernel_rfl
theorem ok_lMulBy5 : SummOK Try.prog 6 su_lMulBy5 (Phi 6) := by
  refine summ_fn (Φ := Phi) 400 (fun _ => t_lMulBy50) Try.func6 (tbl_cons ok_less (tbl_cons ok_prime (tbl_cons ok_iMul5 (tbl_cons ok_times (tbl_cons ok_same tbl_nil))))) chk_lMulBy5 ?_
  intro al hal l hl ρ hk hs ha
  have hn : su_lMulBy5.inKinds.length = 6 := rfl
  have hr : row ρ 6 = [ρ 0, ρ 1, ρ 2, ρ 3, ρ 4, ρ 5] := rfl
  rw [hn, hr] at hk ⊢
  simp only [su_lMulBy5, Summ.inKinds, List.flatMap_cons, List.flatMap_nil, List.replicate, List.cons_append, List.nil_append, List.append_nil, holdsAll, K.holds] at hk
  obtain ⟨b0, b1, b2, b3, b4, b5, _⟩ := hk
  simp only [t_lMulBy50, CT.leaves, List.cons_append, List.nil_append, List.mem_cons, List.not_mem_nil, or_false] at hl
  rcases hl with rfl | rfl
  · simp only [satTr_cons, satTr_nil, sv_lss, sv_leq, sv_gtr, sv_geq, sv_eql, sv_neq, sv_not, sv_beq, sv_pick, sv_add, sv_sub, sv_fn, sv_eqs, E.den, List.map, K.holds] at hs
    simp only [asrOK_cons, asrOK_nil, if_true, if_false, Bool.false_eq_true, E.den] at ha
    obtain ⟨⟨h13, k13⟩, ⟨h12, k12⟩, ⟨h11, k11⟩, ⟨h10, k10⟩, ⟨h9, k9⟩, ⟨h8, k8⟩, ⟨h7, k7⟩, ⟨h6, k6⟩, _⟩ := hs
    obtain ⟨a0, _⟩ := ha
    have g6 : [ρ 6, ρ 7, ρ 8, ρ 9, ρ 10, ρ 11] = wds 6 q := get6 rfl h6 h7 h8 h9 h10 h11
    have e12 : ρ 12 = b2i (decide (val [ρ 0, ρ 1, ρ 2, ρ 3, ρ 4, ρ 5] < val [ρ 6, ρ 7, ρ 8, ρ 9, ρ 10, ρ 11])) := h12
    rw [st_dec] at e12
    rfl
  · simp only [satTr_cons, satTr_nil, sv_lss, sv_leq, sv_gtr, sv_geq, sv_eql, sv_neq, sv_not, sv_beq, sv_pick, sv_add, sv_sub, sv_fn, sv_eqs, E.den, List.map, K.holds] at hs
    simp only [asrOK_cons, asrOK_nil, if_true, if_false, Bool.false_eq_true, E.den] at ha
    obtain ⟨⟨h32, k32⟩, ⟨h31, k31⟩, ⟨h30, k30⟩, ⟨h29, k29⟩, ⟨h28, k28⟩, ⟨h27, k27⟩, ⟨h26, k26⟩, ⟨h25, k25⟩, ⟨h24, k24⟩, ⟨h23, k23⟩, ⟨h22, k22⟩, ⟨h21, k21⟩, ⟨h20, k20⟩, ⟨h19, k19⟩, ⟨h18, k18⟩, ⟨h17, k17⟩, ⟨h16, k16⟩, ⟨h15, k15⟩, ⟨h14, k14⟩, ⟨h13, k13⟩, ⟨h12, k12⟩, ⟨h11, k11⟩, ⟨h10, k10⟩, ⟨h9, k9⟩, ⟨h8, k8⟩, ⟨h7, k7⟩, ⟨h6, k6⟩, _⟩ := hs
    obtain ⟨a0, _⟩ := ha
    have g6 : [ρ 6, ρ 7, ρ 8, ρ 9, ρ 10, ρ 11] = wds 6 q := get6 rfl h6 h7 h8 h9 h10 h11
    have e12 : ρ 12 = b2i (decide (val [ρ 0, ρ 1, ρ 2, ρ 3, ρ 4, ρ 5] < val [ρ 6, ρ 7, ρ 8, ρ 9, ρ 10, ρ 11])) := h12
    rw [st_dec] at e12
    have g14 : [ρ 14, ρ 15, ρ 16, ρ 17, ρ 18, ρ 19] = mul5F 6 q [ρ 0, ρ 1, ρ 2, ρ 3, ρ 4, ρ 5] := get6 rfl h14 h15 h16 h17 h18 h19
    have g20 : [ρ 20, ρ 21, ρ 22, ρ 23, ρ 24, ρ 25] = wds 6 q := get6 rfl h20 h21 h22 h23 h24 h25
    have g26 : [ρ 26, ρ 27, ρ 28, ρ 29, ρ 30, ρ 31] = timesF 6 [5, ρ 0, ρ 1, ρ 2, ρ 3, ρ 4, ρ 5, ρ 20, ρ 21, ρ 22, ρ 23, ρ 24, ρ 25] := get6 rfl h26 h27 h28 h29 h30 h31
    have e32 : ρ 32 = b2i (decide ([ρ 14, ρ 15, ρ 16, ρ 17, ρ 18, ρ 19] = [ρ 26, ρ 27, ρ 28, ρ 29, ρ 30, ρ 31])) := h32
    rw [st_dec] at e32
    have hp : val (wds 6 q) = q := by kernel_rfl
    rw [g6, hp] at e12
    have ha : val [ρ 0, ρ 1, ρ 2, ρ 3, ρ 4, ρ 5] < q := by omega
    have hs : [ρ 14, ρ 15, ρ 16, ρ 17, ρ 18, ρ 19] = [ρ 26, ρ 27, ρ 28, ρ 29, ρ 30, ρ 31] := by
      rw [g14, g26]
      exact law_five (a := [ρ 0, ρ 1, ρ 2, ρ 3, ρ 4, ρ 5]) (m := [ρ 20, ρ 21, ρ 22, ρ 23, ρ 24, ρ 25]) (u64s_cons b0 (u64s_cons b1 (u64s_cons b2 (u64s_cons b3 (u64s_cons b4 (u64s_cons b5 u64s_nil)))))) ha (by rw [g20, hp]) (by decide) (List.replicate 6 0) (by kernel_rfl)
    simp only [hs, true_and, not_true_eq_false, false_and, or_false] at e32
    change [1] = [ρ 32]
    rw [e32]

end Go.Proofs.Ytifnkaddhaddmaa
