/- The functions of the seat Ytifnkaddhaddmaa, each once: its ways through the text, and what it comes to in numbers. Written by a program (gen.py). -/
import Derived.Test.YtifnkaddhaddmaaSymU
import Derived.Test.YtifnkaddhaddmaaSymZ
import Derived.Test.YtifnkaddhaddmaaRows
set_option linter.unusedVariables false
set_option linter.unusedSimpArgs false
set_option maxRecDepth 4000
namespace Go.Proofs.Ytifnkaddhaddmaa
open Go.Sym

def q : Int := 4002409555221667393417789825735904156556882819939007885332058136124031650490837864442687629129015664037894272559787
def r : Int := 3380320199399472671518931668520476396067793891014375699959770179129436917079669831430077592723774664465579537268733

def Phi : Nat → List Int → List Int
  | 9 => lessF 6
  | 13 => sameF 6
  | 10 => primeF 6 q
  | 30 => plusF 6
  | 29 => lessenF 6
  | 27 => addWF 6
  | 17 => subWF 6
  | 15 => setF 6 1
  | 21 => timesF 6
  | 38 => setF 6 0
  | 44 => setF 6 r
  | 25 => zeroF
  | 26 => isF 6 r
  | 41 => smallF q
  | 31 => eaddF 6 q
  | 32 => esubF 6 q
  | 42 => edblF 6 q
  | 28 => enegF 6 q
  | 37 => setF 6 r
  | 33 => mul5F 6 q
  | 24 => setF 6 r
  | 11 => zeroF
  | 12 => isF 6 r
  | 18 => aaddF 6 q
  | 19 => asubF 6 q
  | 16 => anegF 6 q
  | 20 => mul5F 6 q
  | 4 => fun _ => [1]
  | 5 => fun _ => [1]
  | 6 => fun _ => [1]
  | 8 => fun _ => [1]
  | 3 => fun _ => [1]
  | 40 => add64F
  | 39 => sub64F
  | 14 => shiftF 6
  | _ => fun _ => []

theorem ok_add64 : SummOK Try.prog 40 addSub (Phi 40) := summ_add64 Try.func40 (by kernel_rfl) (by kernel_rfl) (by kernel_rfl) (by kernel_rfl)

theorem ok_sub64 : SummOK Try.prog 39 addSub (Phi 39) := summ_sub64 Try.func39 (by kernel_rfl) (by kernel_rfl) (by kernel_rfl) (by kernel_rfl)

/-! ### less -/
def su_less : Summ := ⟨[.slc 6, .slc 6], none, [.sc .bool]⟩
def t_less0 : CT := .node (.v 12)
  (.leaf ⟨[(13, .bool, .cmp .lss (.v 5) (.v 11)),
    (12, .bool, .cmp .neq (.v 5) (.v 11))],
    [(.v 12, true)], [.v 13]⟩)
  (.node (.v 13)
  (.leaf ⟨[(14, .bool, .cmp .lss (.v 4) (.v 10)),
    (13, .bool, .cmp .neq (.v 4) (.v 10)),
    (12, .bool, .cmp .neq (.v 5) (.v 11))],
    [(.v 13, true), (.v 12, false)], [.v 14]⟩)
  (.node (.v 14)
  (.leaf ⟨[(15, .bool, .cmp .lss (.v 3) (.v 9)),
    (14, .bool, .cmp .neq (.v 3) (.v 9)),
    (13, .bool, .cmp .neq (.v 4) (.v 10)),
    (12, .bool, .cmp .neq (.v 5) (.v 11))],
    [(.v 14, true), (.v 13, false), (.v 12, false)], [.v 15]⟩)
  (.node (.v 15)
  (.leaf ⟨[(16, .bool, .cmp .lss (.v 2) (.v 8)),
    (15, .bool, .cmp .neq (.v 2) (.v 8)),
    (14, .bool, .cmp .neq (.v 3) (.v 9)),
    (13, .bool, .cmp .neq (.v 4) (.v 10)),
    (12, .bool, .cmp .neq (.v 5) (.v 11))],
    [(.v 15, true), (.v 14, false), (.v 13, false), (.v 12, false)], [.v 16]⟩)
  (.node (.v 16)
  (.leaf ⟨[(17, .bool, .cmp .lss (.v 1) (.v 7)),
    (16, .bool, .cmp .neq (.v 1) (.v 7)),
    (15, .bool, .cmp .neq (.v 2) (.v 8)),
    (14, .bool, .cmp .neq (.v 3) (.v 9)),
    (13, .bool, .cmp .neq (.v 4) (.v 10)),
    (12, .bool, .cmp .neq (.v 5) (.v 11))],
    [(.v 16, true), (.v 15, false), (.v 14, false), (.v 13, false), (.v 12, false)], [.v 17]⟩)
  (.node (.v 17)
  (.leaf ⟨[(18, .bool, .cmp .lss (.v 0) (.v 6)),
    (17, .bool, .cmp .neq (.v 0) (.v 6)),
    (16, .bool, .cmp .neq (.v 1) (.v 7)),
    (15, .bool, .cmp .neq (.v 2) (.v 8)),
    (14, .bool, .cmp .neq (.v 3) (.v 9)),
    (13, .bool, .cmp .neq (.v 4) (.v 10)),
    (12, .bool, .cmp .neq (.v 5) (.v 11))],
    [(.v 17, true), (.v 16, false), (.v 15, false), (.v 14, false), (.v 13, false), (.v 12, false)], [.v 18]⟩)
  (.leaf ⟨[(17, .bool, .cmp .neq (.v 0) (.v 6)),
    (16, .bool, .cmp .neq (.v 1) (.v 7)),
    (15, .bool, .cmp .neq (.v 2) (.v 8)),
    (14, .bool, .cmp .neq (.v 3) (.v 9)),
    (13, .bool, .cmp .neq (.v 4) (.v 10)),
    (12, .bool, .cmp .neq (.v 5) (.v 11))],
    [(.v 17, false), (.v 16, false), (.v 15, false), (.v 14, false), (.v 13, false), (.v 12, false)], [.c 0]⟩))))))
theorem chk_less : checkFn Try.prog [] su_less 400 Try.f9 (fun _ => t_less0) = true := by kernel_rfl
theorem ok_less : SummOK Try.prog 9 su_less (Phi 9) := by
  refine summ_fn (Φ := Phi) 400 (fun _ => t_less0) Try.func9 tbl_nil chk_less ?_
  intro al hal l hl ρ hk hs ha
  have hn : su_less.inKinds.length = 12 := rfl
  have hr : row ρ 12 = [ρ 0, ρ 1, ρ 2, ρ 3, ρ 4, ρ 5, ρ 6, ρ 7, ρ 8, ρ 9, ρ 10, ρ 11] := rfl
  rw [hn, hr] at hk ⊢
  simp only [su_less, Summ.inKinds, List.flatMap_cons, List.flatMap_nil, List.replicate, List.cons_append, List.nil_append, List.append_nil, holdsAll, K.holds] at hk
  obtain ⟨b0, b1, b2, b3, b4, b5, b6, b7, b8, b9, b10, b11, _⟩ := hk
  simp only [t_less0, CT.leaves, List.cons_append, List.nil_append, List.mem_cons, List.not_mem_nil, or_false] at hl
  rcases hl with rfl | rfl | rfl | rfl | rfl | rfl | rfl
  · simp only [satTr_cons, satTr_nil, sv_lss, sv_leq, sv_gtr, sv_geq, sv_eql, sv_neq, sv_not, sv_beq, sv_pick, sv_add, sv_sub, sv_fn, sv_eqs, E.den, List.map, K.holds] at hs
    simp only [asrOK_cons, asrOK_nil, if_true, if_false, Bool.false_eq_true, E.den] at ha
    obtain ⟨⟨h13, k13⟩, ⟨h12, k12⟩, _⟩ := hs
    obtain ⟨a0, _⟩ := ha
    refine dec_one (p := val [ρ 0, ρ 1, ρ 2, ρ 3, ρ 4, ρ 5] < val [ρ 6, ρ 7, ρ 8, ρ 9, ρ 10, ρ 11]) (z := ρ 13) ?_
    simp only [val, q, List.cons.injEq, and_true]
    omega
  · simp only [satTr_cons, satTr_nil, sv_lss, sv_leq, sv_gtr, sv_geq, sv_eql, sv_neq, sv_not, sv_beq, sv_pick, sv_add, sv_sub, sv_fn, sv_eqs, E.den, List.map, K.holds] at hs
    simp only [asrOK_cons, asrOK_nil, if_true, if_false, Bool.false_eq_true, E.den] at ha
    obtain ⟨⟨h14, k14⟩, ⟨h13, k13⟩, ⟨h12, k12⟩, _⟩ := hs
    obtain ⟨a0, a1, _⟩ := ha
    refine dec_one (p := val [ρ 0, ρ 1, ρ 2, ρ 3, ρ 4, ρ 5] < val [ρ 6, ρ 7, ρ 8, ρ 9, ρ 10, ρ 11]) (z := ρ 14) ?_
    simp only [val, q, List.cons.injEq, and_true]
    omega
  · simp only [satTr_cons, satTr_nil, sv_lss, sv_leq, sv_gtr, sv_geq, sv_eql, sv_neq, sv_not, sv_beq, sv_pick, sv_add, sv_sub, sv_fn, sv_eqs, E.den, List.map, K.holds] at hs
    simp only [asrOK_cons, asrOK_nil, if_true, if_false, Bool.false_eq_true, E.den] at ha
    obtain ⟨⟨h15, k15⟩, ⟨h14, k14⟩, ⟨h13, k13⟩, ⟨h12, k12⟩, _⟩ := hs
    obtain ⟨a0, a1, a2, _⟩ := ha
    refine dec_one (p := val [ρ 0, ρ 1, ρ 2, ρ 3, ρ 4, ρ 5] < val [ρ 6, ρ 7, ρ 8, ρ 9, ρ 10, ρ 11]) (z := ρ 15) ?_
    simp only [val, q, List.cons.injEq, and_true]
    omega
  · simp only [satTr_cons, satTr_nil, sv_lss, sv_leq, sv_gtr, sv_geq, sv_eql, sv_neq, sv_not, sv_beq, sv_pick, sv_add, sv_sub, sv_fn, sv_eqs, E.den, List.map, K.holds] at hs
    simp only [asrOK_cons, asrOK_nil, if_true, if_false, Bool.false_eq_true, E.den] at ha
    obtain ⟨⟨h16, k16⟩, ⟨h15, k15⟩, ⟨h14, k14⟩, ⟨h13, k13⟩, ⟨h12, k12⟩, _⟩ := hs
    obtain ⟨a0, a1, a2, a3, _⟩ := ha
    refine dec_one (p := val [ρ 0, ρ 1, ρ 2, ρ 3, ρ 4, ρ 5] < val [ρ 6, ρ 7, ρ 8, ρ 9, ρ 10, ρ 11]) (z := ρ 16) ?_
    simp only [val, q, List.cons.injEq, and_true]
    omega
  · simp only [satTr_cons, satTr_nil, sv_lss, sv_leq, sv_gtr, sv_geq, sv_eql, sv_neq, sv_not, sv_beq, sv_pick, sv_add, sv_sub, sv_fn, sv_eqs, E.den, List.map, K.holds] at hs
    simp only [asrOK_cons, asrOK_nil, if_true, if_false, Bool.false_eq_true, E.den] at ha
    obtain ⟨⟨h17, k17⟩, ⟨h16, k16⟩, ⟨h15, k15⟩, ⟨h14, k14⟩, ⟨h13, k13⟩, ⟨h12, k12⟩, _⟩ := hs
    obtain ⟨a0, a1, a2, a3, a4, _⟩ := ha
    refine dec_one (p := val [ρ 0, ρ 1, ρ 2, ρ 3, ρ 4, ρ 5] < val [ρ 6, ρ 7, ρ 8, ρ 9, ρ 10, ρ 11]) (z := ρ 17) ?_
    simp only [val, q, List.cons.injEq, and_true]
    omega
  · simp only [satTr_cons, satTr_nil, sv_lss, sv_leq, sv_gtr, sv_geq, sv_eql, sv_neq, sv_not, sv_beq, sv_pick, sv_add, sv_sub, sv_fn, sv_eqs, E.den, List.map, K.holds] at hs
    simp only [asrOK_cons, asrOK_nil, if_true, if_false, Bool.false_eq_true, E.den] at ha
    obtain ⟨⟨h18, k18⟩, ⟨h17, k17⟩, ⟨h16, k16⟩, ⟨h15, k15⟩, ⟨h14, k14⟩, ⟨h13, k13⟩, ⟨h12, k12⟩, _⟩ := hs
    obtain ⟨a0, a1, a2, a3, a4, a5, _⟩ := ha
    refine dec_one (p := val [ρ 0, ρ 1, ρ 2, ρ 3, ρ 4, ρ 5] < val [ρ 6, ρ 7, ρ 8, ρ 9, ρ 10, ρ 11]) (z := ρ 18) ?_
    simp only [val, q, List.cons.injEq, and_true]
    omega
  · simp only [satTr_cons, satTr_nil, sv_lss, sv_leq, sv_gtr, sv_geq, sv_eql, sv_neq, sv_not, sv_beq, sv_pick, sv_add, sv_sub, sv_fn, sv_eqs, E.den, List.map, K.holds] at hs
    simp only [asrOK_cons, asrOK_nil, if_true, if_false, Bool.false_eq_true, E.den] at ha
    obtain ⟨⟨h17, k17⟩, ⟨h16, k16⟩, ⟨h15, k15⟩, ⟨h14, k14⟩, ⟨h13, k13⟩, ⟨h12, k12⟩, _⟩ := hs
    obtain ⟨a0, a1, a2, a3, a4, a5, _⟩ := ha
    refine dec_one (p := val [ρ 0, ρ 1, ρ 2, ρ 3, ρ 4, ρ 5] < val [ρ 6, ρ 7, ρ 8, ρ 9, ρ 10, ρ 11]) (z := 0) ?_
    simp only [val, q, List.cons.injEq, and_true]
    omega

/-! ### same -/
def su_same : Summ := ⟨[.slc 6, .slc 6], none, [.sc .bool]⟩
def t_same0 : CT := .node (.v 12)
  (.leaf ⟨[(12, .bool, .cmp .neq (.v 0) (.v 6))],
    [(.v 12, true)], [.c 0]⟩)
  (.node (.v 13)
  (.leaf ⟨[(13, .bool, .cmp .neq (.v 1) (.v 7)),
    (12, .bool, .cmp .neq (.v 0) (.v 6))],
    [(.v 13, true), (.v 12, false)], [.c 0]⟩)
  (.node (.v 14)
  (.leaf ⟨[(14, .bool, .cmp .neq (.v 2) (.v 8)),
    (13, .bool, .cmp .neq (.v 1) (.v 7)),
    (12, .bool, .cmp .neq (.v 0) (.v 6))],
    [(.v 14, true), (.v 13, false), (.v 12, false)], [.c 0]⟩)
  (.node (.v 15)
  (.leaf ⟨[(15, .bool, .cmp .neq (.v 3) (.v 9)),
    (14, .bool, .cmp .neq (.v 2) (.v 8)),
    (13, .bool, .cmp .neq (.v 1) (.v 7)),
    (12, .bool, .cmp .neq (.v 0) (.v 6))],
    [(.v 15, true), (.v 14, false), (.v 13, false), (.v 12, false)], [.c 0]⟩)
  (.node (.v 16)
  (.leaf ⟨[(16, .bool, .cmp .neq (.v 4) (.v 10)),
    (15, .bool, .cmp .neq (.v 3) (.v 9)),
    (14, .bool, .cmp .neq (.v 2) (.v 8)),
    (13, .bool, .cmp .neq (.v 1) (.v 7)),
    (12, .bool, .cmp .neq (.v 0) (.v 6))],
    [(.v 16, true), (.v 15, false), (.v 14, false), (.v 13, false), (.v 12, false)], [.c 0]⟩)
  (.node (.v 17)
  (.leaf ⟨[(17, .bool, .cmp .neq (.v 5) (.v 11)),
    (16, .bool, .cmp .neq (.v 4) (.v 10)),
    (15, .bool, .cmp .neq (.v 3) (.v 9)),
    (14, .bool, .cmp .neq (.v 2) (.v 8)),
    (13, .bool, .cmp .neq (.v 1) (.v 7)),
    (12, .bool, .cmp .neq (.v 0) (.v 6))],
    [(.v 17, true), (.v 16, false), (.v 15, false), (.v 14, false), (.v 13, false), (.v 12, false)], [.c 0]⟩)
  (.leaf ⟨[(17, .bool, .cmp .neq (.v 5) (.v 11)),
    (16, .bool, .cmp .neq (.v 4) (.v 10)),
    (15, .bool, .cmp .neq (.v 3) (.v 9)),
    (14, .bool, .cmp .neq (.v 2) (.v 8)),
    (13, .bool, .cmp .neq (.v 1) (.v 7)),
    (12, .bool, .cmp .neq (.v 0) (.v 6))],
    [(.v 17, false), (.v 16, false), (.v 15, false), (.v 14, false), (.v 13, false), (.v 12, false)], [.c 1]⟩))))))
theorem chk_same : checkFn Try.prog [] su_same 400 Try.f13 (fun _ => t_same0) = true := by kernel_rfl
theorem ok_same : SummOK Try.prog 13 su_same (Phi 13) := by
  refine summ_fn (Φ := Phi) 400 (fun _ => t_same0) Try.func13 tbl_nil chk_same ?_
  intro al hal l hl ρ hk hs ha
  have hn : su_same.inKinds.length = 12 := rfl
  have hr : row ρ 12 = [ρ 0, ρ 1, ρ 2, ρ 3, ρ 4, ρ 5, ρ 6, ρ 7, ρ 8, ρ 9, ρ 10, ρ 11] := rfl
  rw [hn, hr] at hk ⊢
  simp only [su_same, Summ.inKinds, List.flatMap_cons, List.flatMap_nil, List.replicate, List.cons_append, List.nil_append, List.append_nil, holdsAll, K.holds] at hk
  obtain ⟨b0, b1, b2, b3, b4, b5, b6, b7, b8, b9, b10, b11, _⟩ := hk
  simp only [t_same0, CT.leaves, List.cons_append, List.nil_append, List.mem_cons, List.not_mem_nil, or_false] at hl
  rcases hl with rfl | rfl | rfl | rfl | rfl | rfl | rfl
  · simp only [satTr_cons, satTr_nil, sv_lss, sv_leq, sv_gtr, sv_geq, sv_eql, sv_neq, sv_not, sv_beq, sv_pick, sv_add, sv_sub, sv_fn, sv_eqs, E.den, List.map, K.holds] at hs
    simp only [asrOK_cons, asrOK_nil, if_true, if_false, Bool.false_eq_true, E.den] at ha
    obtain ⟨⟨h12, k12⟩, _⟩ := hs
    obtain ⟨a0, _⟩ := ha
    refine dec_one (p := [ρ 0, ρ 1, ρ 2, ρ 3, ρ 4, ρ 5] = [ρ 6, ρ 7, ρ 8, ρ 9, ρ 10, ρ 11]) (z := 0) ?_
    simp only [val, q, List.cons.injEq, and_true]
    omega
  · simp only [satTr_cons, satTr_nil, sv_lss, sv_leq, sv_gtr, sv_geq, sv_eql, sv_neq, sv_not, sv_beq, sv_pick, sv_add, sv_sub, sv_fn, sv_eqs, E.den, List.map, K.holds] at hs
    simp only [asrOK_cons, asrOK_nil, if_true, if_false, Bool.false_eq_true, E.den] at ha
    obtain ⟨⟨h13, k13⟩, ⟨h12, k12⟩, _⟩ := hs
    obtain ⟨a0, a1, _⟩ := ha
    refine dec_one (p := [ρ 0, ρ 1, ρ 2, ρ 3, ρ 4, ρ 5] = [ρ 6, ρ 7, ρ 8, ρ 9, ρ 10, ρ 11]) (z := 0) ?_
    simp only [val, q, List.cons.injEq, and_true]
    omega
  · simp only [satTr_cons, satTr_nil, sv_lss, sv_leq, sv_gtr, sv_geq, sv_eql, sv_neq, sv_not, sv_beq, sv_pick, sv_add, sv_sub, sv_fn, sv_eqs, E.den, List.map, K.holds] at hs
    simp only [asrOK_cons, asrOK_nil, if_true, if_false, Bool.false_eq_true, E.den] at ha
    obtain ⟨⟨h14, k14⟩, ⟨h13, k13⟩, ⟨h12, k12⟩, _⟩ := hs
    obtain ⟨a0, a1, a2, _⟩ := ha
    refine dec_one (p := [ρ 0, ρ 1, ρ 2, ρ 3, ρ 4, ρ 5] = [ρ 6, ρ 7, ρ 8, ρ 9, ρ 10, ρ 11]) (z := 0) ?_
    simp only [val, q, List.cons.injEq, and_true]
    omega
  · simp only [satTr_cons, satTr_nil, sv_lss, sv_leq, sv_gtr, sv_geq, sv_eql, sv_neq, sv_not, sv_beq, sv_pick, sv_add, sv_sub, sv_fn, sv_eqs, E.den, List.map, K.holds] at hs
    simp only [asrOK_cons, asrOK_nil, if_true, if_false, Bool.false_eq_true, E.den] at ha
    obtain ⟨⟨h15, k15⟩, ⟨h14, k14⟩, ⟨h13, k13⟩, ⟨h12, k12⟩, _⟩ := hs
    obtain ⟨a0, a1, a2, a3, _⟩ := ha
    refine dec_one (p := [ρ 0, ρ 1, ρ 2, ρ 3, ρ 4, ρ 5] = [ρ 6, ρ 7, ρ 8, ρ 9, ρ 10, ρ 11]) (z := 0) ?_
    simp only [val, q, List.cons.injEq, and_true]
    omega
  · simp only [satTr_cons, satTr_nil, sv_lss, sv_leq, sv_gtr, sv_geq, sv_eql, sv_neq, sv_not, sv_beq, sv_pick, sv_add, sv_sub, sv_fn, sv_eqs, E.den, List.map, K.holds] at hs
    simp only [asrOK_cons, asrOK_nil, if_true, if_false, Bool.false_eq_true, E.den] at ha
    obtain ⟨⟨h16, k16⟩, ⟨h15, k15⟩, ⟨h14, k14⟩, ⟨h13, k13⟩, ⟨h12, k12⟩, _⟩ := hs
    obtain ⟨a0, a1, a2, a3, a4, _⟩ := ha
    refine dec_one (p := [ρ 0, ρ 1, ρ 2, ρ 3, ρ 4, ρ 5] = [ρ 6, ρ 7, ρ 8, ρ 9, ρ 10, ρ 11]) (z := 0) ?_
    simp only [val, q, List.cons.injEq, and_true]
    omega
  · simp only [satTr_cons, satTr_nil, sv_lss, sv_leq, sv_gtr, sv_geq, sv_eql, sv_neq, sv_not, sv_beq, sv_pick, sv_add, sv_sub, sv_fn, sv_eqs, E.den, List.map, K.holds] at hs
    simp only [asrOK_cons, asrOK_nil, if_true, if_false, Bool.false_eq_true, E.den] at ha
    obtain ⟨⟨h17, k17⟩, ⟨h16, k16⟩, ⟨h15, k15⟩, ⟨h14, k14⟩, ⟨h13, k13⟩, ⟨h12, k12⟩, _⟩ := hs
    obtain ⟨a0, a1, a2, a3, a4, a5, _⟩ := ha
    refine dec_one (p := [ρ 0, ρ 1, ρ 2, ρ 3, ρ 4, ρ 5] = [ρ 6, ρ 7, ρ 8, ρ 9, ρ 10, ρ 11]) (z := 0) ?_
    simp only [val, q, List.cons.injEq, and_true]
    omega
  · simp only [satTr_cons, satTr_nil, sv_lss, sv_leq, sv_gtr, sv_geq, sv_eql, sv_neq, sv_not, sv_beq, sv_pick, sv_add, sv_sub, sv_fn, sv_eqs, E.den, List.map, K.holds] at hs
    simp only [asrOK_cons, asrOK_nil, if_true, if_false, Bool.false_eq_true, E.den] at ha
    obtain ⟨⟨h17, k17⟩, ⟨h16, k16⟩, ⟨h15, k15⟩, ⟨h14, k14⟩, ⟨h13, k13⟩, ⟨h12, k12⟩, _⟩ := hs
    obtain ⟨a0, a1, a2, a3, a4, a5, _⟩ := ha
    refine dec_one (p := [ρ 0, ρ 1, ρ 2, ρ 3, ρ 4, ρ 5] = [ρ 6, ρ 7, ρ 8, ρ 9, ρ 10, ρ 11]) (z := 1) ?_
    simp only [val, q, List.cons.injEq, and_true]
    omega

/-! ### prime -/
def su_prime : Summ := ⟨[], none, [.slc 6]⟩
def t_prime0 : CT := .leaf ⟨[],
    [], [.c 13402431016077863595, .c 2210141511517208575, .c 7435674573564081700, .c 7239337960414712511, .c 5412103778470702295, .c 1873798617647539866]⟩
theorem chk_prime : checkFn Try.prog [] su_prime 400 Try.f10 (fun _ => t_prime0) = true := by kernel_rfl
theorem ok_prime : SummOK Try.prog 10 su_prime (Phi 10) := by
  refine summ_fn (Φ := Phi) 400 (fun _ => t_prime0) Try.func10 tbl_nil chk_prime ?_
  intro al hal l hl ρ hk hs ha
  have hn : su_prime.inKinds.length = 0 := rfl
  have hr : row ρ 0 = [] := rfl
  rw [hn, hr] at hk ⊢
  simp only [su_prime, Summ.inKinds, List.flatMap_cons, List.flatMap_nil, List.replicate, List.cons_append, List.nil_append, List.append_nil, holdsAll, K.holds] at hk
  simp only [t_prime0, CT.leaves, List.cons_append, List.nil_append, List.mem_cons, List.not_mem_nil, or_false] at hl
  subst hl
  simp only [satTr_cons, satTr_nil, sv_lss, sv_leq, sv_gtr, sv_geq, sv_eql, sv_neq, sv_not, sv_beq, sv_pick, sv_add, sv_sub, sv_fn, sv_eqs, E.den, List.map, K.holds] at hs
  simp only [asrOK_cons, asrOK_nil, if_true, if_false, Bool.false_eq_true, E.den] at ha
  clear hs
  clear ha
  change wds 6 q = [13402431016077863595, 2210141511517208575, 7435674573564081700, 7239337960414712511, 5412103778470702295, 1873798617647539866]
  kernel_rfl

/-! ### plus -/
def su_plus : Summ := ⟨[.slc 6, .slc 6], none, [.slc 6, .sc .bool]⟩
def t_plus0 : CT := .leaf ⟨[(48, .bool, .cmp .eql (.v 47) (.c 1)),
    (47, .i .u64, .pick (.v 46) (.c 1) (.c 0)),
    (46, .bool, .pick (.v 43) (.c 1) (.v 45)),
    (45, .bool, .cmp .lss (.v 44) (.v 42)),
    (44, .i .u64, .bin .add .u64 (.v 42) (.v 11)),
    (43, .bool, .cmp .lss (.v 42) (.v 41)),
    (42, .i .u64, .bin .add .u64 (.v 5) (.v 41)),
    (41, .i .u64, .pick (.v 40) (.c 1) (.c 0)),
    (40, .bool, .pick (.v 37) (.c 1) (.v 39)),
    (39, .bool, .cmp .lss (.v 38) (.v 36)),
    (38, .i .u64, .bin .add .u64 (.v 36) (.v 10)),
    (37, .bool, .cmp .lss (.v 36) (.v 35)),
    (36, .i .u64, .bin .add .u64 (.v 4) (.v 35)),
    (35, .i .u64, .pick (.v 34) (.c 1) (.c 0)),
    (34, .bool, .pick (.v 31) (.c 1) (.v 33)),
    (33, .bool, .cmp .lss (.v 32) (.v 30)),
    (32, .i .u64, .bin .add .u64 (.v 30) (.v 9)),
    (31, .bool, .cmp .lss (.v 30) (.v 29)),
    (30, .i .u64, .bin .add .u64 (.v 3) (.v 29)),
    (29, .i .u64, .pick (.v 28) (.c 1) (.c 0)),
    (28, .bool, .pick (.v 25) (.c 1) (.v 27)),
    (27, .bool, .cmp .lss (.v 26) (.v 24)),
    (26, .i .u64, .bin .add .u64 (.v 24) (.v 8)),
    (25, .bool, .cmp .lss (.v 24) (.v 23)),
    (24, .i .u64, .bin .add .u64 (.v 2) (.v 23)),
    (23, .i .u64, .pick (.v 22) (.c 1) (.c 0)),
    (22, .bool, .pick (.v 19) (.c 1) (.v 21)),
    (21, .bool, .cmp .lss (.v 20) (.v 18)),
    (20, .i .u64, .bin .add .u64 (.v 18) (.v 7)),
    (19, .bool, .cmp .lss (.v 18) (.v 17)),
    (18, .i .u64, .bin .add .u64 (.v 1) (.v 17)),
    (17, .i .u64, .pick (.v 16) (.c 1) (.c 0)),
    (16, .bool, .pick (.v 13) (.c 1) (.v 15)),
    (15, .bool, .cmp .lss (.v 14) (.v 12)),
    (14, .i .u64, .bin .add .u64 (.v 12) (.v 6)),
    (13, .bool, .cmp .lss (.v 12) (.c 0)),
    (12, .i .u64, .bin .add .u64 (.v 0) (.c 0))],
    [], [.v 14, .v 20, .v 26, .v 32, .v 38, .v 44, .v 48]⟩
theorem chk_plus : checkFn Try.prog [] su_plus 400 Try.f30 (fun _ => t_plus0) = true := by kernel_rfl
theorem ok_plus : SummOK Try.prog 30 su_plus (Phi 30) := by
  refine summ_fn (Φ := Phi) 400 (fun _ => t_plus0) Try.func30 tbl_nil chk_plus ?_
  intro al hal l hl ρ hk hs ha
  have hn : su_plus.inKinds.length = 12 := rfl
  have hr : row ρ 12 = [ρ 0, ρ 1, ρ 2, ρ 3, ρ 4, ρ 5, ρ 6, ρ 7, ρ 8, ρ 9, ρ 10, ρ 11] := rfl
  rw [hn, hr] at hk ⊢
  simp only [su_plus, Summ.inKinds, List.flatMap_cons, List.flatMap_nil, List.replicate, List.cons_append, List.nil_append, List.append_nil, holdsAll, K.holds] at hk
  obtain ⟨b0, b1, b2, b3, b4, b5, b6, b7, b8, b9, b10, b11, _⟩ := hk
  simp only [t_plus0, CT.leaves, List.cons_append, List.nil_append, List.mem_cons, List.not_mem_nil, or_false] at hl
  subst hl
  simp only [satTr_cons, satTr_nil, sv_lss, sv_leq, sv_gtr, sv_geq, sv_eql, sv_neq, sv_not, sv_beq, sv_pick, sv_add, sv_sub, sv_fn, sv_eqs, E.den, List.map, K.holds] at hs
  simp only [asrOK_cons, asrOK_nil, if_true, if_false, Bool.false_eq_true, E.den] at ha
  obtain ⟨⟨h48, k48⟩, ⟨h47, k47⟩, ⟨h46, k46⟩, ⟨h45, k45⟩, ⟨h44, k44⟩, ⟨h43, k43⟩, ⟨h42, k42⟩, ⟨h41, k41⟩, ⟨h40, k40⟩, ⟨h39, k39⟩, ⟨h38, k38⟩, ⟨h37, k37⟩, ⟨h36, k36⟩, ⟨h35, k35⟩, ⟨h34, k34⟩, ⟨h33, k33⟩, ⟨h32, k32⟩, ⟨h31, k31⟩, ⟨h30, k30⟩, ⟨h29, k29⟩, ⟨h28, k28⟩, ⟨h27, k27⟩, ⟨h26, k26⟩, ⟨h25, k25⟩, ⟨h24, k24⟩, ⟨h23, k23⟩, ⟨h22, k22⟩, ⟨h21, k21⟩, ⟨h20, k20⟩, ⟨h19, k19⟩, ⟨h18, k18⟩, ⟨h17, k17⟩, ⟨h16, k16⟩, ⟨h15, k15⟩, ⟨h14, k14⟩, ⟨h13, k13⟩, ⟨h12, k12⟩, _⟩ := hs
  clear ha
  obtain ⟨r0, c0⟩ := plus_round b0 b6 (.inl rfl) h12 h13 h14 h15 h16 h17
  obtain ⟨r1, c1⟩ := plus_round b1 b7 c0 h18 h19 h20 h21 h22 h23
  obtain ⟨r2, c2⟩ := plus_round b2 b8 c1 h24 h25 h26 h27 h28 h29
  obtain ⟨r3, c3⟩ := plus_round b3 b9 c2 h30 h31 h32 h33 h34 h35
  obtain ⟨r4, c4⟩ := plus_round b4 b10 c3 h36 h37 h38 h39 h40 h41
  obtain ⟨r5, c5⟩ := plus_round b5 b11 c4 h42 h43 h44 h45 h46 h47
  clear h12 h13 h14 h15 h16 h17 h18 h19 h20 h21 h22 h23 h24 h25 h26 h27 h28 h29 h30 h31 h32 h33 h34 h35 h36 h37 h38 h39 h40 h41 h42 h43 h44 h45 h46 h47
  refine plus_done (n := 6) (a := [ρ 0, ρ 1, ρ 2, ρ 3, ρ 4, ρ 5]) (b := [ρ 6, ρ 7, ρ 8, ρ 9, ρ 10, ρ 11]) (s := [ρ 14, ρ 20, ρ 26, ρ 32, ρ 38, ρ 44]) (c := ρ 47) (d := ρ 48) (u64s_cons k14 (u64s_cons k20 (u64s_cons k26 (u64s_cons k32 (u64s_cons k38 (u64s_cons k44 u64s_nil)))))) rfl ?_ c5 h48
  simp only [val, big]
  omega

/-! ### lessen -/
def su_lessen : Summ := ⟨[.slc 6, .slc 6], none, [.slc 6, .sc .bool]⟩
def t_lessen0 : CT := .leaf ⟨[(48, .bool, .cmp .eql (.v 47) (.c 1)),
    (47, .i .u64, .pick (.v 46) (.c 1) (.c 0)),
    (46, .bool, .pick (.v 43) (.c 1) (.v 45)),
    (45, .bool, .cmp .lss (.v 42) (.v 11)),
    (44, .i .u64, .bin .sub .u64 (.v 42) (.v 11)),
    (43, .bool, .cmp .lss (.v 5) (.v 41)),
    (42, .i .u64, .bin .sub .u64 (.v 5) (.v 41)),
    (41, .i .u64, .pick (.v 40) (.c 1) (.c 0)),
    (40, .bool, .pick (.v 37) (.c 1) (.v 39)),
    (39, .bool, .cmp .lss (.v 36) (.v 10)),
    (38, .i .u64, .bin .sub .u64 (.v 36) (.v 10)),
    (37, .bool, .cmp .lss (.v 4) (.v 35)),
    (36, .i .u64, .bin .sub .u64 (.v 4) (.v 35)),
    (35, .i .u64, .pick (.v 34) (.c 1) (.c 0)),
    (34, .bool, .pick (.v 31) (.c 1) (.v 33)),
    (33, .bool, .cmp .lss (.v 30) (.v 9)),
    (32, .i .u64, .bin .sub .u64 (.v 30) (.v 9)),
    (31, .bool, .cmp .lss (.v 3) (.v 29)),
    (30, .i .u64, .bin .sub .u64 (.v 3) (.v 29)),
    (29, .i .u64, .pick (.v 28) (.c 1) (.c 0)),
    (28, .bool, .pick (.v 25) (.c 1) (.v 27)),
    (27, .bool, .cmp .lss (.v 24) (.v 8)),
    (26, .i .u64, .bin .sub .u64 (.v 24) (.v 8)),
    (25, .bool, .cmp .lss (.v 2) (.v 23)),
    (24, .i .u64, .bin .sub .u64 (.v 2) (.v 23)),
    (23, .i .u64, .pick (.v 22) (.c 1) (.c 0)),
    (22, .bool, .pick (.v 19) (.c 1) (.v 21)),
    (21, .bool, .cmp .lss (.v 18) (.v 7)),
    (20, .i .u64, .bin .sub .u64 (.v 18) (.v 7)),
    (19, .bool, .cmp .lss (.v 1) (.v 17)),
    (18, .i .u64, .bin .sub .u64 (.v 1) (.v 17)),
    (17, .i .u64, .pick (.v 16) (.c 1) (.c 0)),
    (16, .bool, .pick (.v 13) (.c 1) (.v 15)),
    (15, .bool, .cmp .lss (.v 12) (.v 6)),
    (14, .i .u64, .bin .sub .u64 (.v 12) (.v 6)),
    (13, .bool, .cmp .lss (.v 0) (.c 0)),
    (12, .i .u64, .bin .sub .u64 (.v 0) (.c 0))],
    [], [.v 14, .v 20, .v 26, .v 32, .v 38, .v 44, .v 48]⟩
theorem chk_lessen : checkFn Try.prog [] su_lessen 400 Try.f29 (fun _ => t_lessen0) = true := by kernel_rfl
theorem ok_lessen : SummOK Try.prog 29 su_lessen (Phi 29) := by
  refine summ_fn (Φ := Phi) 400 (fun _ => t_lessen0) Try.func29 tbl_nil chk_lessen ?_
  intro al hal l hl ρ hk hs ha
  have hn : su_lessen.inKinds.length = 12 := rfl
  have hr : row ρ 12 = [ρ 0, ρ 1, ρ 2, ρ 3, ρ 4, ρ 5, ρ 6, ρ 7, ρ 8, ρ 9, ρ 10, ρ 11] := rfl
  rw [hn, hr] at hk ⊢
  simp only [su_lessen, Summ.inKinds, List.flatMap_cons, List.flatMap_nil, List.replicate, List.cons_append, List.nil_append, List.append_nil, holdsAll, K.holds] at hk
  obtain ⟨b0, b1, b2, b3, b4, b5, b6, b7, b8, b9, b10, b11, _⟩ := hk
  simp only [t_lessen0, CT.leaves, List.cons_append, List.nil_append, List.mem_cons, List.not_mem_nil, or_false] at hl
  subst hl
  simp only [satTr_cons, satTr_nil, sv_lss, sv_leq, sv_gtr, sv_geq, sv_eql, sv_neq, sv_not, sv_beq, sv_pick, sv_add, sv_sub, sv_fn, sv_eqs, E.den, List.map, K.holds] at hs
  simp only [asrOK_cons, asrOK_nil, if_true, if_false, Bool.false_eq_true, E.den] at ha
  obtain ⟨⟨h48, k48⟩, ⟨h47, k47⟩, ⟨h46, k46⟩, ⟨h45, k45⟩, ⟨h44, k44⟩, ⟨h43, k43⟩, ⟨h42, k42⟩, ⟨h41, k41⟩, ⟨h40, k40⟩, ⟨h39, k39⟩, ⟨h38, k38⟩, ⟨h37, k37⟩, ⟨h36, k36⟩, ⟨h35, k35⟩, ⟨h34, k34⟩, ⟨h33, k33⟩, ⟨h32, k32⟩, ⟨h31, k31⟩, ⟨h30, k30⟩, ⟨h29, k29⟩, ⟨h28, k28⟩, ⟨h27, k27⟩, ⟨h26, k26⟩, ⟨h25, k25⟩, ⟨h24, k24⟩, ⟨h23, k23⟩, ⟨h22, k22⟩, ⟨h21, k21⟩, ⟨h20, k20⟩, ⟨h19, k19⟩, ⟨h18, k18⟩, ⟨h17, k17⟩, ⟨h16, k16⟩, ⟨h15, k15⟩, ⟨h14, k14⟩, ⟨h13, k13⟩, ⟨h12, k12⟩, _⟩ := hs
  clear ha
  obtain ⟨r0, c0⟩ := lessen_round b0 b6 (.inl rfl) h12 h13 h14 h15 h16 h17
  obtain ⟨r1, c1⟩ := lessen_round b1 b7 c0 h18 h19 h20 h21 h22 h23
  obtain ⟨r2, c2⟩ := lessen_round b2 b8 c1 h24 h25 h26 h27 h28 h29
  obtain ⟨r3, c3⟩ := lessen_round b3 b9 c2 h30 h31 h32 h33 h34 h35
  obtain ⟨r4, c4⟩ := lessen_round b4 b10 c3 h36 h37 h38 h39 h40 h41
  obtain ⟨r5, c5⟩ := lessen_round b5 b11 c4 h42 h43 h44 h45 h46 h47
  clear h12 h13 h14 h15 h16 h17 h18 h19 h20 h21 h22 h23 h24 h25 h26 h27 h28 h29 h30 h31 h32 h33 h34 h35 h36 h37 h38 h39 h40 h41 h42 h43 h44 h45 h46 h47
  refine lessen_done (n := 6) (a := [ρ 0, ρ 1, ρ 2, ρ 3, ρ 4, ρ 5]) (b := [ρ 6, ρ 7, ρ 8, ρ 9, ρ 10, ρ 11]) (s := [ρ 14, ρ 20, ρ 26, ρ 32, ρ 38, ρ 44]) (c := ρ 47) (d := ρ 48) (u64s_cons k14 (u64s_cons k20 (u64s_cons k26 (u64s_cons k32 (u64s_cons k38 (u64s_cons k44 u64s_nil)))))) rfl ?_ c5 h48
  simp only [val, big]
  omega

/-! ### subW -/
def su_subW : Summ := ⟨[.slc 6, .slc 6, .slc 6], none, [.slc 6]⟩
def t_subW0 : CT := .node (.v 24)
  (.leaf ⟨[(31, .bool, .fn 30 [.v 18, .v 19, .v 20, .v 21, .v 22, .v 23, .v 12, .v 13, .v 14, .v 15, .v 16, .v 17] 6),
    (30, .i .u64, .fn 30 [.v 18, .v 19, .v 20, .v 21, .v 22, .v 23, .v 12, .v 13, .v 14, .v 15, .v 16, .v 17] 5),
    (29, .i .u64, .fn 30 [.v 18, .v 19, .v 20, .v 21, .v 22, .v 23, .v 12, .v 13, .v 14, .v 15, .v 16, .v 17] 4),
    (28, .i .u64, .fn 30 [.v 18, .v 19, .v 20, .v 21, .v 22, .v 23, .v 12, .v 13, .v 14, .v 15, .v 16, .v 17] 3),
    (27, .i .u64, .fn 30 [.v 18, .v 19, .v 20, .v 21, .v 22, .v 23, .v 12, .v 13, .v 14, .v 15, .v 16, .v 17] 2),
    (26, .i .u64, .fn 30 [.v 18, .v 19, .v 20, .v 21, .v 22, .v 23, .v 12, .v 13, .v 14, .v 15, .v 16, .v 17] 1),
    (25, .i .u64, .fn 30 [.v 18, .v 19, .v 20, .v 21, .v 22, .v 23, .v 12, .v 13, .v 14, .v 15, .v 16, .v 17] 0),
    (24, .bool, .fn 29 [.v 0, .v 1, .v 2, .v 3, .v 4, .v 5, .v 6, .v 7, .v 8, .v 9, .v 10, .v 11] 6),
    (23, .i .u64, .fn 29 [.v 0, .v 1, .v 2, .v 3, .v 4, .v 5, .v 6, .v 7, .v 8, .v 9, .v 10, .v 11] 5),
    (22, .i .u64, .fn 29 [.v 0, .v 1, .v 2, .v 3, .v 4, .v 5, .v 6, .v 7, .v 8, .v 9, .v 10, .v 11] 4),
    (21, .i .u64, .fn 29 [.v 0, .v 1, .v 2, .v 3, .v 4, .v 5, .v 6, .v 7, .v 8, .v 9, .v 10, .v 11] 3),
    (20, .i .u64, .fn 29 [.v 0, .v 1, .v 2, .v 3, .v 4, .v 5, .v 6, .v 7, .v 8, .v 9, .v 10, .v 11] 2),
    (19, .i .u64, .fn 29 [.v 0, .v 1, .v 2, .v 3, .v 4, .v 5, .v 6, .v 7, .v 8, .v 9, .v 10, .v 11] 1),
    (18, .i .u64, .fn 29 [.v 0, .v 1, .v 2, .v 3, .v 4, .v 5, .v 6, .v 7, .v 8, .v 9, .v 10, .v 11] 0)],
    [(.v 24, true)], [.v 25, .v 26, .v 27, .v 28, .v 29, .v 30]⟩)
  (.leaf ⟨[(24, .bool, .fn 29 [.v 0, .v 1, .v 2, .v 3, .v 4, .v 5, .v 6, .v 7, .v 8, .v 9, .v 10, .v 11] 6),
    (23, .i .u64, .fn 29 [.v 0, .v 1, .v 2, .v 3, .v 4, .v 5, .v 6, .v 7, .v 8, .v 9, .v 10, .v 11] 5),
    (22, .i .u64, .fn 29 [.v 0, .v 1, .v 2, .v 3, .v 4, .v 5, .v 6, .v 7, .v 8, .v 9, .v 10, .v 11] 4),
    (21, .i .u64, .fn 29 [.v 0, .v 1, .v 2, .v 3, .v 4, .v 5, .v 6, .v 7, .v 8, .v 9, .v 10, .v 11] 3),
    (20, .i .u64, .fn 29 [.v 0, .v 1, .v 2, .v 3, .v 4, .v 5, .v 6, .v 7, .v 8, .v 9, .v 10, .v 11] 2),
    (19, .i .u64, .fn 29 [.v 0, .v 1, .v 2, .v 3, .v 4, .v 5, .v 6, .v 7, .v 8, .v 9, .v 10, .v 11] 1),
    (18, .i .u64, .fn 29 [.v 0, .v 1, .v 2, .v 3, .v 4, .v 5, .v 6, .v 7, .v 8, .v 9, .v 10, .v 11] 0)],
    [(.v 24, false)], [.v 18, .v 19, .v 20, .v 21, .v 22, .v 23]⟩)
theorem chk_subW : checkFn Try.prog [(30, su_plus), (29, su_lessen)] su_subW 400 Try.f17 (fun _ => t_subW0) = true := by kernel_rfl
theorem ok_subW : SummOK Try.prog 17 su_subW (Phi 17) := by
  refine summ_fn (Φ := Phi) 400 (fun _ => t_subW0) Try.func17 (tbl_cons ok_plus (tbl_cons ok_lessen tbl_nil)) chk_subW ?_
  intro al hal l hl ρ hk hs ha
  have hn : su_subW.inKinds.length = 18 := rfl
  have hr : row ρ 18 = [ρ 0, ρ 1, ρ 2, ρ 3, ρ 4, ρ 5, ρ 6, ρ 7, ρ 8, ρ 9, ρ 10, ρ 11, ρ 12, ρ 13, ρ 14, ρ 15, ρ 16, ρ 17] := rfl
  rw [hn, hr] at hk ⊢
  simp only [su_subW, Summ.inKinds, List.flatMap_cons, List.flatMap_nil, List.replicate, List.cons_append, List.nil_append, List.append_nil, holdsAll, K.holds] at hk
  obtain ⟨b0, b1, b2, b3, b4, b5, b6, b7, b8, b9, b10, b11, b12, b13, b14, b15, b16, b17, _⟩ := hk
  simp only [t_subW0, CT.leaves, List.cons_append, List.nil_append, List.mem_cons, List.not_mem_nil, or_false] at hl
  rcases hl with rfl | rfl
  · simp only [satTr_cons, satTr_nil, sv_lss, sv_leq, sv_gtr, sv_geq, sv_eql, sv_neq, sv_not, sv_beq, sv_pick, sv_add, sv_sub, sv_fn, sv_eqs, E.den, List.map, K.holds] at hs
    simp only [asrOK_cons, asrOK_nil, if_true, if_false, Bool.false_eq_true, E.den] at ha
    obtain ⟨⟨h31, k31⟩, ⟨h30, k30⟩, ⟨h29, k29⟩, ⟨h28, k28⟩, ⟨h27, k27⟩, ⟨h26, k26⟩, ⟨h25, k25⟩, ⟨h24, k24⟩, ⟨h23, k23⟩, ⟨h22, k22⟩, ⟨h21, k21⟩, ⟨h20, k20⟩, ⟨h19, k19⟩, ⟨h18, k18⟩, _⟩ := hs
    obtain ⟨a0, _⟩ := ha
    have g18 : [ρ 18, ρ 19, ρ 20, ρ 21, ρ 22, ρ 23] = wds 6 (val [ρ 0, ρ 1, ρ 2, ρ 3, ρ 4, ρ 5] - val [ρ 6, ρ 7, ρ 8, ρ 9, ρ 10, ρ 11]) := get6 rfl h18 h19 h20 h21 h22 h23
    have e24 : ρ 24 = b2i (decide (val [ρ 0, ρ 1, ρ 2, ρ 3, ρ 4, ρ 5] < val [ρ 6, ρ 7, ρ 8, ρ 9, ρ 10, ρ 11])) := h24
    rw [st_dec] at e24
    have g25 : [ρ 25, ρ 26, ρ 27, ρ 28, ρ 29, ρ 30] = wds 6 (val [ρ 18, ρ 19, ρ 20, ρ 21, ρ 22, ρ 23] + val [ρ 12, ρ 13, ρ 14, ρ 15, ρ 16, ρ 17]) := get6 rfl h25 h26 h27 h28 h29 h30
    have e31 : ρ 31 = b2i (decide (big 6 ≤ val [ρ 18, ρ 19, ρ 20, ρ 21, ρ 22, ρ 23] + val [ρ 12, ρ 13, ρ 14, ρ 15, ρ 16, ρ 17])) := h31
    rw [st_dec] at e31
    change wds 6 (subM (val [ρ 0, ρ 1, ρ 2, ρ 3, ρ 4, ρ 5]) (val [ρ 6, ρ 7, ρ 8, ρ 9, ρ 10, ρ 11]) (val [ρ 12, ρ 13, ρ 14, ρ 15, ρ 16, ρ 17])) = [ρ 25, ρ 26, ρ 27, ρ 28, ρ 29, ρ 30]
    by_cases hq : val [ρ 0, ρ 1, ρ 2, ρ 3, ρ 4, ρ 5] < val [ρ 6, ρ 7, ρ 8, ρ 9, ρ 10, ρ 11]
    · rw [g25, g18]; exact subW_yes hq
    · simp only [hq, not_false_eq_true, true_and, false_and, false_or] at e24; omega
  · simp only [satTr_cons, satTr_nil, sv_lss, sv_leq, sv_gtr, sv_geq, sv_eql, sv_neq, sv_not, sv_beq, sv_pick, sv_add, sv_sub, sv_fn, sv_eqs, E.den, List.map, K.holds] at hs
    simp only [asrOK_cons, asrOK_nil, if_true, if_false, Bool.false_eq_true, E.den] at ha
    obtain ⟨⟨h24, k24⟩, ⟨h23, k23⟩, ⟨h22, k22⟩, ⟨h21, k21⟩, ⟨h20, k20⟩, ⟨h19, k19⟩, ⟨h18, k18⟩, _⟩ := hs
    obtain ⟨a0, _⟩ := ha
    have g18 : [ρ 18, ρ 19, ρ 20, ρ 21, ρ 22, ρ 23] = wds 6 (val [ρ 0, ρ 1, ρ 2, ρ 3, ρ 4, ρ 5] - val [ρ 6, ρ 7, ρ 8, ρ 9, ρ 10, ρ 11]) := get6 rfl h18 h19 h20 h21 h22 h23
    have e24 : ρ 24 = b2i (decide (val [ρ 0, ρ 1, ρ 2, ρ 3, ρ 4, ρ 5] < val [ρ 6, ρ 7, ρ 8, ρ 9, ρ 10, ρ 11])) := h24
    rw [st_dec] at e24
    change wds 6 (subM (val [ρ 0, ρ 1, ρ 2, ρ 3, ρ 4, ρ 5]) (val [ρ 6, ρ 7, ρ 8, ρ 9, ρ 10, ρ 11]) (val [ρ 12, ρ 13, ρ 14, ρ 15, ρ 16, ρ 17])) = [ρ 18, ρ 19, ρ 20, ρ 21, ρ 22, ρ 23]
    by_cases hq : val [ρ 0, ρ 1, ρ 2, ρ 3, ρ 4, ρ 5] < val [ρ 6, ρ 7, ρ 8, ρ 9, ρ 10, ρ 11]
    · simp only [hq, not_true_eq_false, true_and, false_and, or_false] at e24; omega
    · rw [g18]; exact subW_no hq

/-! ### zero -/
def su_zero : Summ := ⟨[.ptr 6], (some 0), [.arg 0]⟩
def t_zero0 : CT := .leaf ⟨[],
    [], [.c 0, .c 0, .c 0, .c 0, .c 0, .c 0]⟩
theorem chk_zero : checkFn Try.prog [] su_zero 400 Try.f38 (fun _ => t_zero0) = true := by kernel_rfl
theorem ok_zero : SummOK Try.prog 38 su_zero (Phi 38) := by
  refine summ_fn (Φ := Phi) 400 (fun _ => t_zero0) Try.func38 tbl_nil chk_zero ?_
  intro al hal l hl ρ hk hs ha
  have hn : su_zero.inKinds.length = 6 := rfl
  have hr : row ρ 6 = [ρ 0, ρ 1, ρ 2, ρ 3, ρ 4, ρ 5] := rfl
  rw [hn, hr] at hk ⊢
  simp only [su_zero, Summ.inKinds, List.flatMap_cons, List.flatMap_nil, List.replicate, List.cons_append, List.nil_append, List.append_nil, holdsAll, K.holds] at hk
  obtain ⟨b0, b1, b2, b3, b4, b5, _⟩ := hk
  simp only [t_zero0, CT.leaves, List.cons_append, List.nil_append, List.mem_cons, List.not_mem_nil, or_false] at hl
  subst hl
  simp only [satTr_cons, satTr_nil, sv_lss, sv_leq, sv_gtr, sv_geq, sv_eql, sv_neq, sv_not, sv_beq, sv_pick, sv_add, sv_sub, sv_fn, sv_eqs, E.den, List.map, K.holds] at hs
  simp only [asrOK_cons, asrOK_nil, if_true, if_false, Bool.false_eq_true, E.den] at ha
  clear hs
  clear ha
  change wds 6 0 = [0, 0, 0, 0, 0, 0]
  kernel_rfl

/-! ### isZero -/
def su_isZero : Summ := ⟨[.ptr 6], none, [.sc .bool]⟩
def t_isZero0 : CT := .leaf ⟨[(11, .bool, .cmp .eql (.v 10) (.c 0)),
    (10, .i .u64, .bin .or .u64 (.v 9) (.v 0)),
    (9, .i .u64, .bin .or .u64 (.v 8) (.v 1)),
    (8, .i .u64, .bin .or .u64 (.v 7) (.v 2)),
    (7, .i .u64, .bin .or .u64 (.v 6) (.v 3)),
    (6, .i .u64, .bin .or .u64 (.v 5) (.v 4))],
    [], [.v 11]⟩
theorem chk_isZero : checkFn Try.prog [] su_isZero 400 Try.f25 (fun _ => t_isZero0) = true := by kernel_rfl
theorem ok_isZero : SummOK Try.prog 25 su_isZero (Phi 25) := by
  refine summ_fn (Φ := Phi) 400 (fun _ => t_isZero0) Try.func25 tbl_nil chk_isZero ?_
  intro al hal l hl ρ hk hs ha
  have hn : su_isZero.inKinds.length = 6 := rfl
  have hr : row ρ 6 = [ρ 0, ρ 1, ρ 2, ρ 3, ρ 4, ρ 5] := rfl
  rw [hn, hr] at hk ⊢
  simp only [su_isZero, Summ.inKinds, List.flatMap_cons, List.flatMap_nil, List.replicate, List.cons_append, List.nil_append, List.append_nil, holdsAll, K.holds] at hk
  obtain ⟨b0, b1, b2, b3, b4, b5, _⟩ := hk
  simp only [t_isZero0, CT.leaves, List.cons_append, List.nil_append, List.mem_cons, List.not_mem_nil, or_false] at hl
  subst hl
  simp only [satTr_cons, satTr_nil, sv_lss, sv_leq, sv_gtr, sv_geq, sv_eql, sv_neq, sv_not, sv_beq, sv_pick, sv_add, sv_sub, sv_fn, sv_eqs, E.den, List.map, K.holds] at hs
  simp only [asrOK_cons, asrOK_nil, if_true, if_false, Bool.false_eq_true, E.den] at ha
  obtain ⟨⟨h11, k11⟩, ⟨h10, k10⟩, ⟨h9, k9⟩, ⟨h8, k8⟩, ⟨h7, k7⟩, ⟨h6, k6⟩, _⟩ := hs
  clear ha
  have z6 : ρ 6 = 0 ↔ ρ 5 = 0 ∧ ρ 4 = 0 := or_zero b5 b4 h6
  have z7 : ρ 7 = 0 ↔ ρ 6 = 0 ∧ ρ 3 = 0 := or_zero k6 b3 h7
  have z8 : ρ 8 = 0 ↔ ρ 7 = 0 ∧ ρ 2 = 0 := or_zero k7 b2 h8
  have z9 : ρ 9 = 0 ↔ ρ 8 = 0 ∧ ρ 1 = 0 := or_zero k8 b1 h9
  have z10 : ρ 10 = 0 ↔ ρ 9 = 0 ∧ ρ 0 = 0 := or_zero k9 b0 h10
  refine dec_one (p := val [ρ 0, ρ 1, ρ 2, ρ 3, ρ 4, ρ 5] = 0) (z := ρ 11) ?_
  simp only [val, q, List.cons.injEq, and_true]
  clear h6 h7 h8 h9 h10
  omega

/-! ### neg -/
def su_neg : Summ := ⟨[.ptr 6, .ptr 6], (some 0), [.arg 0]⟩
def t_neg0 : CT := .node (.v 12)
  (.leaf ⟨[(18, .i .u64, .fn 38 [.v 0, .v 1, .v 2, .v 3, .v 4, .v 5] 5),
    (17, .i .u64, .fn 38 [.v 0, .v 1, .v 2, .v 3, .v 4, .v 5] 4),
    (16, .i .u64, .fn 38 [.v 0, .v 1, .v 2, .v 3, .v 4, .v 5] 3),
    (15, .i .u64, .fn 38 [.v 0, .v 1, .v 2, .v 3, .v 4, .v 5] 2),
    (14, .i .u64, .fn 38 [.v 0, .v 1, .v 2, .v 3, .v 4, .v 5] 1),
    (13, .i .u64, .fn 38 [.v 0, .v 1, .v 2, .v 3, .v 4, .v 5] 0),
    (12, .bool, .fn 25 [.v 6, .v 7, .v 8, .v 9, .v 10, .v 11] 0)],
    [(.v 12, true)], [.v 13, .v 14, .v 15, .v 16, .v 17, .v 18]⟩)
  (.leaf ⟨[(24, .bit, .fn 39 [.c 1873798617647539866, .v 11, .v 22] 1),
    (23, .i .u64, .fn 39 [.c 1873798617647539866, .v 11, .v 22] 0),
    (22, .bit, .fn 39 [.c 5412103778470702295, .v 10, .v 20] 1),
    (21, .i .u64, .fn 39 [.c 5412103778470702295, .v 10, .v 20] 0),
    (20, .bit, .fn 39 [.c 7239337960414712511, .v 9, .v 18] 1),
    (19, .i .u64, .fn 39 [.c 7239337960414712511, .v 9, .v 18] 0),
    (18, .bit, .fn 39 [.c 7435674573564081700, .v 8, .v 16] 1),
    (17, .i .u64, .fn 39 [.c 7435674573564081700, .v 8, .v 16] 0),
    (16, .bit, .fn 39 [.c 2210141511517208575, .v 7, .v 14] 1),
    (15, .i .u64, .fn 39 [.c 2210141511517208575, .v 7, .v 14] 0),
    (14, .bit, .fn 39 [.c 13402431016077863595, .v 6, .c 0] 1),
    (13, .i .u64, .fn 39 [.c 13402431016077863595, .v 6, .c 0] 0),
    (12, .bool, .fn 25 [.v 6, .v 7, .v 8, .v 9, .v 10, .v 11] 0)],
    [(.v 12, false)], [.v 13, .v 15, .v 17, .v 19, .v 21, .v 23]⟩)
def t_neg1 : CT := .node (.v 12)
  (.leaf ⟨[(18, .i .u64, .fn 38 [.v 6, .v 7, .v 8, .v 9, .v 10, .v 11] 5),
    (17, .i .u64, .fn 38 [.v 6, .v 7, .v 8, .v 9, .v 10, .v 11] 4),
    (16, .i .u64, .fn 38 [.v 6, .v 7, .v 8, .v 9, .v 10, .v 11] 3),
    (15, .i .u64, .fn 38 [.v 6, .v 7, .v 8, .v 9, .v 10, .v 11] 2),
    (14, .i .u64, .fn 38 [.v 6, .v 7, .v 8, .v 9, .v 10, .v 11] 1),
    (13, .i .u64, .fn 38 [.v 6, .v 7, .v 8, .v 9, .v 10, .v 11] 0),
    (12, .bool, .fn 25 [.v 6, .v 7, .v 8, .v 9, .v 10, .v 11] 0)],
    [(.v 12, true)], [.v 13, .v 14, .v 15, .v 16, .v 17, .v 18]⟩)
  (.leaf ⟨[(24, .bit, .fn 39 [.c 1873798617647539866, .v 11, .v 22] 1),
    (23, .i .u64, .fn 39 [.c 1873798617647539866, .v 11, .v 22] 0),
    (22, .bit, .fn 39 [.c 5412103778470702295, .v 10, .v 20] 1),
    (21, .i .u64, .fn 39 [.c 5412103778470702295, .v 10, .v 20] 0),
    (20, .bit, .fn 39 [.c 7239337960414712511, .v 9, .v 18] 1),
    (19, .i .u64, .fn 39 [.c 7239337960414712511, .v 9, .v 18] 0),
    (18, .bit, .fn 39 [.c 7435674573564081700, .v 8, .v 16] 1),
    (17, .i .u64, .fn 39 [.c 7435674573564081700, .v 8, .v 16] 0),
    (16, .bit, .fn 39 [.c 2210141511517208575, .v 7, .v 14] 1),
    (15, .i .u64, .fn 39 [.c 2210141511517208575, .v 7, .v 14] 0),
    (14, .bit, .fn 39 [.c 13402431016077863595, .v 6, .c 0] 1),
    (13, .i .u64, .fn 39 [.c 13402431016077863595, .v 6, .c 0] 0),
    (12, .bool, .fn 25 [.v 6, .v 7, .v 8, .v 9, .v 10, .v 11] 0)],
    [(.v 12, false)], [.v 13, .v 15, .v 17, .v 19, .v 21, .v 23]⟩)
theorem chk_neg : checkFn Try.prog [(39, addSub), (25, su_isZero), (38, su_zero)] su_neg 400 Try.f28 (fun al => match al with | none => t_neg0 | some _ => t_neg1) = true := by kernel_rfl
theorem ok_neg : SummOK Try.prog 28 su_neg (Phi 28) := by
  refine summ_fn (Φ := Phi) 400 (fun al => match al with | none => t_neg0 | some _ => t_neg1) Try.func28 (tbl_cons ok_sub64 (tbl_cons ok_isZero (tbl_cons ok_zero tbl_nil))) chk_neg ?_
  intro al hal l hl ρ hk hs ha
  have hn : su_neg.inKinds.length = 12 := rfl
  have hr : row ρ 12 = [ρ 0, ρ 1, ρ 2, ρ 3, ρ 4, ρ 5, ρ 6, ρ 7, ρ 8, ρ 9, ρ 10, ρ 11] := rfl
  rw [hn, hr] at hk ⊢
  simp only [su_neg, Summ.inKinds, List.flatMap_cons, List.flatMap_nil, List.replicate, List.cons_append, List.nil_append, List.append_nil, holdsAll, K.holds] at hk
  obtain ⟨b0, b1, b2, b3, b4, b5, b6, b7, b8, b9, b10, b11, _⟩ := hk
  cases al with
  | none =>
    simp only [t_neg0, CT.leaves, List.cons_append, List.nil_append, List.mem_cons, List.not_mem_nil, or_false] at hl
    rcases hl with rfl | rfl
    · simp only [satTr_cons, satTr_nil, sv_lss, sv_leq, sv_gtr, sv_geq, sv_eql, sv_neq, sv_not, sv_beq, sv_pick, sv_add, sv_sub, sv_fn, sv_eqs, E.den, List.map, K.holds] at hs
      simp only [asrOK_cons, asrOK_nil, if_true, if_false, Bool.false_eq_true, E.den] at ha
      obtain ⟨⟨h18, k18⟩, ⟨h17, k17⟩, ⟨h16, k16⟩, ⟨h15, k15⟩, ⟨h14, k14⟩, ⟨h13, k13⟩, ⟨h12, k12⟩, _⟩ := hs
      obtain ⟨a0, _⟩ := ha
      have e12 : ρ 12 = b2i (decide (val [ρ 6, ρ 7, ρ 8, ρ 9, ρ 10, ρ 11] = 0)) := h12
      rw [st_dec] at e12
      have g13 : [ρ 13, ρ 14, ρ 15, ρ 16, ρ 17, ρ 18] = wds 6 0 := get6 rfl h13 h14 h15 h16 h17 h18
      change wds 6 (eNeg q (val [ρ 6, ρ 7, ρ 8, ρ 9, ρ 10, ρ 11])) = [ρ 13, ρ 14, ρ 15, ρ 16, ρ 17, ρ 18]
      have hz : val [ρ 6, ρ 7, ρ 8, ρ 9, ρ 10, ρ 11] = 0 := by omega
      rw [g13, eNeg, if_pos hz]
    · simp only [satTr_cons, satTr_nil, sv_lss, sv_leq, sv_gtr, sv_geq, sv_eql, sv_neq, sv_not, sv_beq, sv_pick, sv_add, sv_sub, sv_fn, sv_eqs, E.den, List.map, K.holds] at hs
      simp only [asrOK_cons, asrOK_nil, if_true, if_false, Bool.false_eq_true, E.den] at ha
      obtain ⟨⟨h24, k24⟩, ⟨h23, k23⟩, ⟨h22, k22⟩, ⟨h21, k21⟩, ⟨h20, k20⟩, ⟨h19, k19⟩, ⟨h18, k18⟩, ⟨h17, k17⟩, ⟨h16, k16⟩, ⟨h15, k15⟩, ⟨h14, k14⟩, ⟨h13, k13⟩, ⟨h12, k12⟩, _⟩ := hs
      obtain ⟨a0, _⟩ := ha
      have e12 : ρ 12 = b2i (decide (val [ρ 6, ρ 7, ρ 8, ρ 9, ρ 10, ρ 11] = 0)) := h12
      rw [st_dec] at e12
      have r13 : ρ 13 - 18446744073709551616 * ρ 14 = 13402431016077863595 - ρ 6 - 0 := sbb (by decide) b6 (by decide) h13 h14
      have r15 : ρ 15 - 18446744073709551616 * ρ 16 = 2210141511517208575 - ρ 7 - ρ 14 := sbb (by decide) b7 k14 h15 h16
      have r17 : ρ 17 - 18446744073709551616 * ρ 18 = 7435674573564081700 - ρ 8 - ρ 16 := sbb (by decide) b8 k16 h17 h18
      have r19 : ρ 19 - 18446744073709551616 * ρ 20 = 7239337960414712511 - ρ 9 - ρ 18 := sbb (by decide) b9 k18 h19 h20
      have r21 : ρ 21 - 18446744073709551616 * ρ 22 = 5412103778470702295 - ρ 10 - ρ 20 := sbb (by decide) b10 k20 h21 h22
      have r23 : ρ 23 - 18446744073709551616 * ρ 24 = 1873798617647539866 - ρ 11 - ρ 22 := sbb (by decide) b11 k22 h23 h24
      change wds 6 (eNeg q (val [ρ 6, ρ 7, ρ 8, ρ 9, ρ 10, ρ 11])) = [ρ 13, ρ 15, ρ 17, ρ 19, ρ 21, ρ 23]
      have hz : ¬ val [ρ 6, ρ 7, ρ 8, ρ 9, ρ 10, ρ 11] = 0 := by omega
      rw [eNeg, if_neg hz]
      clear e12
      refine wds_eq (u64s_cons k13 (u64s_cons k15 (u64s_cons k17 (u64s_cons k19 (u64s_cons k21 (u64s_cons k23 u64s_nil)))))) rfl (ρ 24) ?_
      simp only [val, big, q]
      omega
  | some j =>
    simp only [t_neg1, CT.leaves, List.cons_append, List.nil_append, List.mem_cons, List.not_mem_nil, or_false] at hl
    rcases hl with rfl | rfl
    · simp only [satTr_cons, satTr_nil, sv_lss, sv_leq, sv_gtr, sv_geq, sv_eql, sv_neq, sv_not, sv_beq, sv_pick, sv_add, sv_sub, sv_fn, sv_eqs, E.den, List.map, K.holds] at hs
      simp only [asrOK_cons, asrOK_nil, if_true, if_false, Bool.false_eq_true, E.den] at ha
      obtain ⟨⟨h18, k18⟩, ⟨h17, k17⟩, ⟨h16, k16⟩, ⟨h15, k15⟩, ⟨h14, k14⟩, ⟨h13, k13⟩, ⟨h12, k12⟩, _⟩ := hs
      obtain ⟨a0, _⟩ := ha
      have e12 : ρ 12 = b2i (decide (val [ρ 6, ρ 7, ρ 8, ρ 9, ρ 10, ρ 11] = 0)) := h12
      rw [st_dec] at e12
      have g13 : [ρ 13, ρ 14, ρ 15, ρ 16, ρ 17, ρ 18] = wds 6 0 := get6 rfl h13 h14 h15 h16 h17 h18
      change wds 6 (eNeg q (val [ρ 6, ρ 7, ρ 8, ρ 9, ρ 10, ρ 11])) = [ρ 13, ρ 14, ρ 15, ρ 16, ρ 17, ρ 18]
      have hz : val [ρ 6, ρ 7, ρ 8, ρ 9, ρ 10, ρ 11] = 0 := by omega
      rw [g13, eNeg, if_pos hz]
    · simp only [satTr_cons, satTr_nil, sv_lss, sv_leq, sv_gtr, sv_geq, sv_eql, sv_neq, sv_not, sv_beq, sv_pick, sv_add, sv_sub, sv_fn, sv_eqs, E.den, List.map, K.holds] at hs
      simp only [asrOK_cons, asrOK_nil, if_true, if_false, Bool.false_eq_true, E.den] at ha
      obtain ⟨⟨h24, k24⟩, ⟨h23, k23⟩, ⟨h22, k22⟩, ⟨h21, k21⟩, ⟨h20, k20⟩, ⟨h19, k19⟩, ⟨h18, k18⟩, ⟨h17, k17⟩, ⟨h16, k16⟩, ⟨h15, k15⟩, ⟨h14, k14⟩, ⟨h13, k13⟩, ⟨h12, k12⟩, _⟩ := hs
      obtain ⟨a0, _⟩ := ha
      have e12 : ρ 12 = b2i (decide (val [ρ 6, ρ 7, ρ 8, ρ 9, ρ 10, ρ 11] = 0)) := h12
      rw [st_dec] at e12
      have r13 : ρ 13 - 18446744073709551616 * ρ 14 = 13402431016077863595 - ρ 6 - 0 := sbb (by decide) b6 (by decide) h13 h14
      have r15 : ρ 15 - 18446744073709551616 * ρ 16 = 2210141511517208575 - ρ 7 - ρ 14 := sbb (by decide) b7 k14 h15 h16
      have r17 : ρ 17 - 18446744073709551616 * ρ 18 = 7435674573564081700 - ρ 8 - ρ 16 := sbb (by decide) b8 k16 h17 h18
      have r19 : ρ 19 - 18446744073709551616 * ρ 20 = 7239337960414712511 - ρ 9 - ρ 18 := sbb (by decide) b9 k18 h19 h20
      have r21 : ρ 21 - 18446744073709551616 * ρ 22 = 5412103778470702295 - ρ 10 - ρ 20 := sbb (by decide) b10 k20 h21 h22
      have r23 : ρ 23 - 18446744073709551616 * ρ 24 = 1873798617647539866 - ρ 11 - ρ 22 := sbb (by decide) b11 k22 h23 h24
      change wds 6 (eNeg q (val [ρ 6, ρ 7, ρ 8, ρ 9, ρ 10, ρ 11])) = [ρ 13, ρ 15, ρ 17, ρ 19, ρ 21, ρ 23]
      have hz : ¬ val [ρ 6, ρ 7, ρ 8, ρ 9, ρ 10, ρ 11] = 0 := by omega
      rw [eNeg, if_neg hz]
      clear e12
      refine wds_eq (u64s_cons k13 (u64s_cons k15 (u64s_cons k17 (u64s_cons k19 (u64s_cons k21 (u64s_cons k23 u64s_nil)))))) rfl (ρ 24) ?_
      simp only [val, big, q]
      omega

/-! ### iNeg -/
def su_iNeg : Summ := ⟨[.agg 6], none, [.agg 6]⟩
def t_iNeg0 : CT := .leaf ⟨[(11, .i .u64, .fn 28 [.c 0, .c 0, .c 0, .c 0, .c 0, .c 0, .v 0, .v 1, .v 2, .v 3, .v 4, .v 5] 5),
    (10, .i .u64, .fn 28 [.c 0, .c 0, .c 0, .c 0, .c 0, .c 0, .v 0, .v 1, .v 2, .v 3, .v 4, .v 5] 4),
    (9, .i .u64, .fn 28 [.c 0, .c 0, .c 0, .c 0, .c 0, .c 0, .v 0, .v 1, .v 2, .v 3, .v 4, .v 5] 3),
    (8, .i .u64, .fn 28 [.c 0, .c 0, .c 0, .c 0, .c 0, .c 0, .v 0, .v 1, .v 2, .v 3, .v 4, .v 5] 2),
    (7, .i .u64, .fn 28 [.c 0, .c 0, .c 0, .c 0, .c 0, .c 0, .v 0, .v 1, .v 2, .v 3, .v 4, .v 5] 1),
    (6, .i .u64, .fn 28 [.c 0, .c 0, .c 0, .c 0, .c 0, .c 0, .v 0, .v 1, .v 2, .v 3, .v 4, .v 5] 0)],
    [], [.v 6, .v 7, .v 8, .v 9, .v 10, .v 11]⟩
theorem chk_iNeg : checkFn Try.prog [(28, su_neg)] su_iNeg 400 Try.f16 (fun _ => t_iNeg0) = true := by kernel_rfl
theorem ok_iNeg : SummOK Try.prog 16 su_iNeg (Phi 16) := by
  refine summ_fn (Φ := Phi) 400 (fun _ => t_iNeg0) Try.func16 (tbl_cons ok_neg tbl_nil) chk_iNeg ?_
  intro al hal l hl ρ hk hs ha
  have hn : su_iNeg.inKinds.length = 6 := rfl
  have hr : row ρ 6 = [ρ 0, ρ 1, ρ 2, ρ 3, ρ 4, ρ 5] := rfl
  rw [hn, hr] at hk ⊢
  simp only [su_iNeg, Summ.inKinds, List.flatMap_cons, List.flatMap_nil, List.replicate, List.cons_append, List.nil_append, List.append_nil, holdsAll, K.holds] at hk
  obtain ⟨b0, b1, b2, b3, b4, b5, _⟩ := hk
  simp only [t_iNeg0, CT.leaves, List.cons_append, List.nil_append, List.mem_cons, List.not_mem_nil, or_false] at hl
  subst hl
  simp only [satTr_cons, satTr_nil, sv_lss, sv_leq, sv_gtr, sv_geq, sv_eql, sv_neq, sv_not, sv_beq, sv_pick, sv_add, sv_sub, sv_fn, sv_eqs, E.den, List.map, K.holds] at hs
  simp only [asrOK_cons, asrOK_nil, if_true, if_false, Bool.false_eq_true, E.den] at ha
  obtain ⟨⟨h11, k11⟩, ⟨h10, k10⟩, ⟨h9, k9⟩, ⟨h8, k8⟩, ⟨h7, k7⟩, ⟨h6, k6⟩, _⟩ := hs
  clear ha
  have g6 : [ρ 6, ρ 7, ρ 8, ρ 9, ρ 10, ρ 11] = wds 6 (eNeg q (val [ρ 0, ρ 1, ρ 2, ρ 3, ρ 4, ρ 5])) := get6 rfl h6 h7 h8 h9 h10 h11
  exact g6.symm

/-! ### lNeg -/
def su_lNeg : Summ := ⟨[.agg 6], none, [.sc .bool]⟩
def t_lNeg0 : CT := .node (.v 13)
  (.leaf ⟨[(13, .bool, .not (.v 12)),
    (12, .bool, .fn 9 [.v 0, .v 1, .v 2, .v 3, .v 4, .v 5, .v 6, .v 7, .v 8, .v 9, .v 10, .v 11] 0),
    (11, .i .u64, .fn 10 [] 5),
    (10, .i .u64, .fn 10 [] 4),
    (9, .i .u64, .fn 10 [] 3),
    (8, .i .u64, .fn 10 [] 2),
    (7, .i .u64, .fn 10 [] 1),
    (6, .i .u64, .fn 10 [] 0)],
    [(.v 13, true)], [.c 1]⟩)
  (.leaf ⟨[(32, .bool, .fn 13 [.v 14, .v 15, .v 16, .v 17, .v 18, .v 19, .v 26, .v 27, .v 28, .v 29, .v 30, .v 31] 0),
    (31, .i .u64, .fn 17 [.c 0, .c 0, .c 0, .c 0, .c 0, .c 0, .v 0, .v 1, .v 2, .v 3, .v 4, .v 5, .v 20, .v 21, .v 22, .v 23, .v 24, .v 25] 5),
    (30, .i .u64, .fn 17 [.c 0, .c 0, .c 0, .c 0, .c 0, .c 0, .v 0, .v 1, .v 2, .v 3, .v 4, .v 5, .v 20, .v 21, .v 22, .v 23, .v 24, .v 25] 4),
    (29, .i .u64, .fn 17 [.c 0, .c 0, .c 0, .c 0, .c 0, .c 0, .v 0, .v 1, .v 2, .v 3, .v 4, .v 5, .v 20, .v 21, .v 22, .v 23, .v 24, .v 25] 3),
    (28, .i .u64, .fn 17 [.c 0, .c 0, .c 0, .c 0, .c 0, .c 0, .v 0, .v 1, .v 2, .v 3, .v 4, .v 5, .v 20, .v 21, .v 22, .v 23, .v 24, .v 25] 2),
    (27, .i .u64, .fn 17 [.c 0, .c 0, .c 0, .c 0, .c 0, .c 0, .v 0, .v 1, .v 2, .v 3, .v 4, .v 5, .v 20, .v 21, .v 22, .v 23, .v 24, .v 25] 1),
    (26, .i .u64, .fn 17 [.c 0, .c 0, .c 0, .c 0, .c 0, .c 0, .v 0, .v 1, .v 2, .v 3, .v 4, .v 5, .v 20, .v 21, .v 22, .v 23, .v 24, .v 25] 0),
    (25, .i .u64, .fn 10 [] 5),
    (24, .i .u64, .fn 10 [] 4),
    (23, .i .u64, .fn 10 [] 3),
    (22, .i .u64, .fn 10 [] 2),
    (21, .i .u64, .fn 10 [] 1),
    (20, .i .u64, .fn 10 [] 0),
    (19, .i .u64, .fn 16 [.v 0, .v 1, .v 2, .v 3, .v 4, .v 5] 5),
    (18, .i .u64, .fn 16 [.v 0, .v 1, .v 2, .v 3, .v 4, .v 5] 4),
    (17, .i .u64, .fn 16 [.v 0, .v 1, .v 2, .v 3, .v 4, .v 5] 3),
    (16, .i .u64, .fn 16 [.v 0, .v 1, .v 2, .v 3, .v 4, .v 5] 2),
    (15, .i .u64, .fn 16 [.v 0, .v 1, .v 2, .v 3, .v 4, .v 5] 1),
    (14, .i .u64, .fn 16 [.v 0, .v 1, .v 2, .v 3, .v 4, .v 5] 0),
    (13, .bool, .not (.v 12)),
    (12, .bool, .fn 9 [.v 0, .v 1, .v 2, .v 3, .v 4, .v 5, .v 6, .v 7, .v 8, .v 9, .v 10, .v 11] 0),
    (11, .i .u64, .fn 10 [] 5),
    (10, .i .u64, .fn 10 [] 4),
    (9, .i .u64, .fn 10 [] 3),
    (8, .i .u64, .fn 10 [] 2),
    (7, .i .u64, .fn 10 [] 1),
    (6, .i .u64, .fn 10 [] 0)],
    [(.v 13, false)], [.v 32]⟩)
theorem chk_lNeg : checkFn Try.prog [(9, su_less), (10, su_prime), (16, su_iNeg), (17, su_subW), (13, su_same)] su_lNeg 400 Try.f4 (fun _ => t_lNeg0) = true := by kernel_rfl
theorem ok_lNeg : SummOK Try.prog 4 su_lNeg (Phi 4) := by
  refine summ_fn (Φ := Phi) 400 (fun _ => t_lNeg0) Try.func4 (tbl_cons ok_less (tbl_cons ok_prime (tbl_cons ok_iNeg (tbl_cons ok_subW (tbl_cons ok_same tbl_nil))))) chk_lNeg ?_
  intro al hal l hl ρ hk hs ha
  have hn : su_lNeg.inKinds.length = 6 := rfl
  have hr : row ρ 6 = [ρ 0, ρ 1, ρ 2, ρ 3, ρ 4, ρ 5] := rfl
  rw [hn, hr] at hk ⊢
  simp only [su_lNeg, Summ.inKinds, List.flatMap_cons, List.flatMap_nil, List.replicate, List.cons_append, List.nil_append, List.append_nil, holdsAll, K.holds] at hk
  obtain ⟨b0, b1, b2, b3, b4, b5, _⟩ := hk
  simp only [t_lNeg0, CT.leaves, List.cons_append, List.nil_append, List.mem_cons, List.not_mem_nil, or_false] at hl
  rcases hl with rfl | rfl
  · simp only [satTr_cons, satTr_nil, sv_lss, sv_leq, sv_gtr, sv_geq, sv_eql, sv_neq, sv_not, sv_beq, sv_pick, sv_add, sv_sub, sv_fn, sv_eqs, E.den, List.map, K.holds] at hs
    simp only [asrOK_cons, asrOK_nil, if_true, if_false, Bool.false_eq_true, E.den] at ha
    obtain ⟨⟨h13, k13⟩, ⟨h12, k12⟩, ⟨h11, k11⟩, ⟨h10, k10⟩, ⟨h9, k9⟩, ⟨h8, k8⟩, ⟨h7, k7⟩, ⟨h6, k6⟩, _⟩ := hs
    obtain ⟨a0, _⟩ := ha
    have g6 : [ρ 6, ρ 7, ρ 8, ρ 9, ρ 10, ρ 11] = wds 6 q := get6 rfl h6 h7 h8 h9 h10 h11
    have e12 : ρ 12 = b2i (decide (val [ρ 0, ρ 1, ρ 2, ρ 3, ρ 4, ρ 5] < val [ρ 6, ρ 7, ρ 8, ρ 9, ρ 10, ρ 11])) := h12
    rw [st_dec] at e12
    rfl
  · simp only [satTr_cons, satTr_nil, sv_lss, sv_leq, sv_gtr, sv_geq, sv_eql, sv_neq, sv_not, sv_beq, sv_pick, sv_add, sv_sub, sv_fn, sv_eqs, E.den, List.map, K.holds] at hs
    simp only [asrOK_cons, asrOK_nil, if_true, if_false, Bool.false_eq_true, E.den] at ha
    obtain ⟨⟨h32, k32⟩, ⟨h31, k31⟩, ⟨h30, k30⟩, ⟨h29, k29⟩, ⟨h28, k28⟩, ⟨h27, k27⟩, ⟨h26, k26⟩, ⟨h25, k25⟩, ⟨h24, k24⟩, ⟨h23, k23⟩, ⟨h22, k22⟩, ⟨h21, k21⟩, ⟨h20, k20⟩, ⟨h19, k19⟩, ⟨h18, k18⟩, ⟨h17, k17⟩, ⟨h16, k16⟩, ⟨h15, k15⟩, ⟨h14, k14⟩, ⟨h13, k13⟩, ⟨h12, k12⟩, ⟨h11, k11⟩, ⟨h10, k10⟩, ⟨h9, k9⟩, ⟨h8, k8⟩, ⟨h7, k7⟩, ⟨h6, k6⟩, _⟩ := hs
    obtain ⟨a0, _⟩ := ha
    have g6 : [ρ 6, ρ 7, ρ 8, ρ 9, ρ 10, ρ 11] = wds 6 q := get6 rfl h6 h7 h8 h9 h10 h11
    have e12 : ρ 12 = b2i (decide (val [ρ 0, ρ 1, ρ 2, ρ 3, ρ 4, ρ 5] < val [ρ 6, ρ 7, ρ 8, ρ 9, ρ 10, ρ 11])) := h12
    rw [st_dec] at e12
    have g14 : [ρ 14, ρ 15, ρ 16, ρ 17, ρ 18, ρ 19] = wds 6 (eNeg q (val [ρ 0, ρ 1, ρ 2, ρ 3, ρ 4, ρ 5])) := get6 rfl h14 h15 h16 h17 h18 h19
    have g20 : [ρ 20, ρ 21, ρ 22, ρ 23, ρ 24, ρ 25] = wds 6 q := get6 rfl h20 h21 h22 h23 h24 h25
    have g26 : [ρ 26, ρ 27, ρ 28, ρ 29, ρ 30, ρ 31] = wds 6 (subM (val [0, 0, 0, 0, 0, 0]) (val [ρ 0, ρ 1, ρ 2, ρ 3, ρ 4, ρ 5]) (val [ρ 20, ρ 21, ρ 22, ρ 23, ρ 24, ρ 25])) := get6 rfl h26 h27 h28 h29 h30 h31
    have e32 : ρ 32 = b2i (decide ([ρ 14, ρ 15, ρ 16, ρ 17, ρ 18, ρ 19] = [ρ 26, ρ 27, ρ 28, ρ 29, ρ 30, ρ 31])) := h32
    rw [st_dec] at e32
    have hp : val (wds 6 q) = q := by kernel_rfl
    rw [g6, hp] at e12
    have hlt : val [ρ 0, ρ 1, ρ 2, ρ 3, ρ 4, ρ 5] < q := by omega
    have hx := (val_nonneg (ws := [ρ 0, ρ 1, ρ 2, ρ 3, ρ 4, ρ 5]) (u64s_cons b0 (u64s_cons b1 (u64s_cons b2 (u64s_cons b3 (u64s_cons b4 (u64s_cons b5 u64s_nil))))))).1
    have hs : [ρ 14, ρ 15, ρ 16, ρ 17, ρ 18, ρ 19] = [ρ 26, ρ 27, ρ 28, ρ 29, ρ 30, ρ 31] := by
      rw [g14, g26, g20, hp]
      congr 1
      have h0 : val [0, 0, 0, 0, 0, 0] = 0 := by kernel_rfl
      rw [h0, eNeg, subM]
      split <;> split <;> omega
    simp only [hs, true_and, not_true_eq_false, false_and, or_false] at e32
    change [1] = [ρ 32]
    rw [e32]

end Go.Proofs.Ytifnkaddhaddmaa
