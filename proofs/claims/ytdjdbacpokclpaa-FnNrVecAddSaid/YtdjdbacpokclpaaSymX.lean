/- Symbolic runs of straight Go code over the model: the summaries of math/bits.Add64 and Sub64, which the model stands in for. -/
import Derived.Test.YtdjdbacpokclpaaSymR
import Derived.Laws.Externs
namespace Go.Sym

def addSub : Summ := ⟨[.sc (.i .u64), .sc (.i .u64), .sc .bit], none, [.sc (.i .u64), .sc .bit]⟩

def add64F : List Int → List Int
  | [x, y, c] => [(x + y + c) % 18446744073709551616, (x + y + c) / 18446744073709551616]
  | _ => []

def sub64F : List Int → List Int
  | [x, y, c] => [(x - y - c) % 18446744073709551616, if x < y + c then 1 else 0]
  | _ => []

def subE : Array Value → Sem Value := (Extern.MathBitsCarry.rows[1]'(by decide)).2

theorem run_subE {P : Program} (x y b : Nat) (hb : b ≤ 1) (w : World) :
    (subE #[.int .u64 x, .int .u64 y, .int .u64 b]).run P w =
      .ok (.tuple #[.int .u64 (((x + 18446744073709551616 - y - b) % 18446744073709551616 : Nat) : Int), .int .u64 ((if x < y + b then 1 else 0 : Nat) : Int)]) w := by
  have : b = 0 ∨ b = 1 := by omega
  rcases this with rfl | rfl <;> rfl

theorem args3 {w : World} {xs : List AV} {k1 k2 k3 : K} (h : AVs w [.sc k1, .sc k2, .sc k3] xs) : ∃ x y z, xs = [.sc x, .sc y, .sc z] ∧ k1.holds x ∧ k2.holds y ∧ k3.holds z := by
  cases h with
  | cons h1 t => cases t with
    | cons h2 t => cases t with
      | cons h3 t => cases t with
        | nil =>
          rename_i x y z
          cases x <;> simp only [AV.ok] at h1
          cases y <;> simp only [AV.ok] at h2
          cases z <;> simp only [AV.ok] at h3
          exact ⟨_, _, _, rfl, h1, h2, h3⟩

theorem ints3 {k1 k2 k3 : K} {ins : List Int} (h : holdsAll [k1, k2, k3] ins) : ∃ x y z, ins = [x, y, z] ∧ k1.holds x ∧ k2.holds y ∧ k3.holds z := by
  match ins, h with
  | [x, y, z], h => exact ⟨x, y, z, rfl, h.1, h.2.1, h.2.2.1⟩
  | [], h => simp [holdsAll] at h
  | [_], h => simp [holdsAll] at h
  | [_, _], h => simp [holdsAll] at h
  | _ :: _ :: _ :: _ :: _, h => simp [holdsAll] at h

theorem keep_post {s : Summ} {xs : List AV} {outs : List Int} {w : World} (hw : s.wr = none) (hr : freshOf s.res (outs.drop (wrLen s)) = none) : CallPost s xs outs w w 0 :=
  ⟨Keeps.refl _ _, fun b o n h => by simp [wrPlace, hw] at h, fun ws h => by rw [hr] at h; cases h⟩

theorem summ_extern {P : Program} {f : Nat} {fn : Func} {e : Array Value → Sem Value} {F : List Int → List Int} (hf : P.funcs[f]? = some fn) (hname : (fn.name == "runtime.NumGoroutine") = false)
    (hb : fn.body.isNone = true) (hn : Extern.findNext fn = none) (he : Extern.find fn = some e)
    (hkind : ∀ ins, holdsAll addSub.inKinds ins → holdsAll addSub.outKinds (F ins))
    (hrun : ∀ x y c w, (K.i .u64).holds x → (K.i .u64).holds y → K.bit.holds c → (e #[.int .u64 x, .int .u64 y, .int .u64 c]).run P w = .ok (.tuple #[.int .u64 ((F [x, y, c]).getD 0 0), .int .u64 ((F [x, y, c]).getD 1 0)]) w) : SummOK P f addSub F := by
  refine ⟨hkind, fun xs w hav _ _ a o vs ats K Q ho hargs hK => ?_⟩
  obtain ⟨x, y, z, rfl, hx, hy, hz⟩ := args3 hav
  have hexec : execOp a.eval o = callFunc f #[.int .u64 x, .int .u64 y, .int .u64 z] := by
    unfold execOp
    rw [ho]
    have : vs.map a.eval = #[.int .u64 x, .int .u64 y, .int .u64 z] := by
      have h2 : (vs.map a.eval).toList = [.int .u64 x, .int .u64 y, .int .u64 z] := hargs
      rw [← h2]
    show callFunc f (#[] ++ vs.map a.eval ++ #[]) = _
    simp [this]
  unfold Oper.wp
  rw [hexec, run_callFunc_extern hf hname hb hn he, hrun x y z w hx hy hz]
  have key := hK w 0 (keep_post rfl rfl)
  have e1 : oneOrTuple (resVals [AV.sc x, AV.sc y, AV.sc z] 0 addSub.res ((F ([AV.sc x, AV.sc y, AV.sc z].flatMap AV.ints)).drop (wrLen addSub))) = .tuple #[.int .u64 ((F [x, y, z]).getD 0 0), .int .u64 ((F [x, y, z]).getD 1 0)] := by
    show oneOrTuple (resVals _ 0 [.sc (.i .u64), .sc .bit] ((F [x, y, z]).drop 0)) = _
    simp [resVals, oneOrTuple, Sym.K.val]
  rw [e1] at key
  exact key

theorem summ_add64 {P : Program} {f : Nat} {fn : Func} (hf : P.funcs[f]? = some fn) (hname : (fn.name == "runtime.NumGoroutine") = false)
    (hb : fn.body.isNone = true) (hn : Extern.findNext fn = none) (he : Extern.find fn = some add64Entry) : SummOK P f addSub add64F := by
  refine summ_extern hf hname hb hn he (fun ins h => ?_) (fun x y c w hx hy hc => ?_)
  · obtain ⟨x, y, z, rfl, hx, hy, hz⟩ := ints3 h
    simp only [K.holds] at hx hy hz
    refine ⟨?_, ?_, trivial⟩ <;> simp only [K.holds] <;> omega
  · simp only [K.holds] at hx hy hc
    rw [run_add64 x y c hx.1 hy.1 hc.1 hc.2]
    rfl

theorem summ_sub64 {P : Program} {f : Nat} {fn : Func} (hf : P.funcs[f]? = some fn) (hname : (fn.name == "runtime.NumGoroutine") = false)
    (hb : fn.body.isNone = true) (hn : Extern.findNext fn = none) (he : Extern.find fn = some subE) : SummOK P f addSub sub64F := by
  refine summ_extern hf hname hb hn he (fun ins h => ?_) (fun x y c w hx hy hc => ?_)
  · obtain ⟨x, y, z, rfl, hx, hy, hz⟩ := ints3 h
    simp only [K.holds] at hx hy hz
    refine ⟨?_, ?_, trivial⟩
    · simp only [K.holds]; omega
    · simp only [K.holds]
      split <;> omega
  · simp only [K.holds] at hx hy hc
    obtain ⟨X, rfl⟩ := Int.eq_ofNat_of_zero_le hx.1
    obtain ⟨Y, rfl⟩ := Int.eq_ofNat_of_zero_le hy.1
    obtain ⟨C, rfl⟩ := Int.eq_ofNat_of_zero_le hc.1
    rw [run_subE X Y C (by omega)]
    simp only [sub64F, List.getD_cons_zero, List.getD_cons_succ]
    congr 4
    · congr 1
      omega
    · congr 3
      split <;> split <;> first | rfl | omega

end Go.Sym
