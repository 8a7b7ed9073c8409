import Derived.Test.YoeebwFmtJ
namespace Go.Proofs.YoeebwFmt
open Go.ChangeShapes Go.WideShapes Go.ChangeAt Go.WideMaps Go.WideElems Go.RowKit Go.Deep
open Go.Extern.Stop Go.Stop Go.Extern

/-- The witness of a told row, at a world whose shape is shown by whatever means. -/
theorem witness_at {H : Type} {enc : TypeId × Value → H} {C : Checked} {os : Os} {f : FuncId} {fn : Func} {s : OpenSpec} {conds : List PathCond} {apart : Bool} {laid : List (String × DataW Unit)} (w0 : World) (args : Array Value) (hos : w0.os = os)
    (hsh : (w0.forCall (fun _ _ => 0) ⟨#[], args, []⟩).Shaped C.prog)
    (hok : Input.okWideB C.prog (w0.forCall (fun _ _ => 0) ⟨#[], args, []⟩) f ⟨#[], args, []⟩ = true)
    (hrow : s.preRow enc C.prog fn conds apart laid (w0.forCall (fun _ _ => 0) ⟨#[], args, []⟩).memory args) (F : Stop.Interp) :
    ∃ (w : World) (tape : Tape) (i : Input), w.os = os ∧ (w.forCall tape i).Shaped C.prog ∧ i.vars = [] ∧ Input.okWide C.prog (w.forCall tape i) .any w.heap.size f i ∧
      s.preRow enc C.prog fn conds apart laid (w.forCall tape i).memory i.args ∧ ({ } : Assume).holds C.prog (lone (Frame.enter C.prog f i.args .normal) [] (w.forCall tape i)) ∧ F.answers tape :=
  ⟨w0, F.over fun _ _ => 0, ⟨#[], args, []⟩, hos, hsh, (Input.okWide_of_okWideB (base := 0) hok).1, (Input.okWide_of_okWideB hok).2, hrow, by
    simp only [Assume.holds]
    exact ⟨by simp, by simp, fun h => by simp at h, by simp, by simp⟩, F.over_answers _⟩

theorem door_met (os : Os) (args : Array Value) : laidMetH Eebg.prog Rows.fnBytecodeFormatInstructionsOneLinePerInstructionRow.laid ((World.doorLaid Eebg.prog 61 os).forCall (fun _ _ => 0) ⟨#[], args, []⟩).memory :=
  laidMetH_of_parts3 (fuel := 8) (laidMet_of_run' 8 (by kernel_rfl) (by kernel_rfl)) (by kernel_rfl) (by kernel_rfl)

theorem door_shaped (os : Os) (args : Array Value) : ((World.doorLaid Eebg.prog 61 os).forCall (fun _ _ => 0) ⟨#[], args, []⟩).Shaped Eebg.checked.prog :=
  World.shaped_of_RefB (by kernel_rfl) (by kernel_rfl)

theorem Eebg.readable22 : Eebg.prog.readableRec 22 = true ∧ 22 < Eebg.prog.types.size := ⟨by kernel_rfl, of_decide_eq_true (by kernel_rfl)⟩
theorem Eebg.readable23 : Eebg.prog.readableRec 23 = true ∧ 23 < Eebg.prog.types.size := ⟨by kernel_rfl, of_decide_eq_true (by kernel_rfl)⟩
theorem Eebg.readable24 : Eebg.prog.readableRec 24 = true ∧ 24 < Eebg.prog.types.size := ⟨by kernel_rfl, of_decide_eq_true (by kernel_rfl)⟩
theorem Eebg.readable50 : Eebg.prog.readableRec 50 = true ∧ 50 < Eebg.prog.types.size := ⟨by kernel_rfl, of_decide_eq_true (by kernel_rfl)⟩
theorem Eebg.readable54 : Eebg.prog.readableRec 54 = true ∧ 54 < Eebg.prog.types.size := ⟨by kernel_rfl, of_decide_eq_true (by kernel_rfl)⟩
theorem Eebg.laidOut' : laidOutB Eebg.prog = true := Eebg.laidOut

section
variable {H : Type} {enc : TypeId × Value → H}

/-- ARGS: the arguments read behind the call as they did. -/
theorem args_again {W W' : World} (hb : Below W.heap.size W W') : ∀ {ts : List TypeId} {vs : List Value} {ds : List (DataW H)} {p : List MemPlace}, (∀ t ∈ ts, Eebg.prog.readableRec t = true ∧ t < Eebg.prog.types.size) →
    DataW.TrodAll enc Eebg.prog W 0 (fun _ => true) true ts vs ds p → (∀ x ∈ p, x.block < W.heap.size) → DataW.TrodAll enc Eebg.prog W' 0 (fun b => decide (b < W.heap.size)) true ts vs ds p
  | [], vs, ds, p, _, h, _ => by
    obtain ⟨rfl, rfl, rfl⟩ := trodAll_nil h
    exact trodAll_mk0
  | t :: ts, vs, ds, p, ht, h, hlt => by
    obtain ⟨v, vs', d, ds', p1, q1, rfl, rfl, rfl, h1, h2⟩ := trodAll_cons h
    have r := ht t (by simp)
    exact trodAll_cons_mk (Below.trod Eebg.laidOut' r.1 r.2 h1 hb (fun x hx => hlt x (by simp [hx]))) (args_again hb (fun t' h' => ht t' (by simp [h'])) h2 (fun x hx => hlt x (by simp [hx])))

theorem var_lt {W : World} {n : String} {g : Nat} {cs : Array Value} (hg : Eebg.prog.globalNamed n = some g) (hv : W.var? Eebg.prog n = some cs) : g < W.heap.size := by
  simp only [World.var?, hg, Option.bind_some] at hv
  rcases Nat.lt_or_ge g W.heap.size with h | h
  · exact h
  · rw [Array.getElem?_eq_none h] at hv
    cases hv

/-- VARS: the two named variables read behind the call as they did. -/
theorem vars_again {W W' : World} {gs : List (DataW H)} {q : List MemPlace} (h : DataW.TrodVars enc Eebg.prog W (fun _ => true) [nOps, nNms] gs q) (hb : Below W.heap.size W W') (hlt : ∀ x ∈ q, x.block < W.heap.size) :
    ∃ g1 g2, gs = [g1, g2] ∧ DataW.TrodVars enc Eebg.prog W' (fun b => decide (b < W.heap.size)) [nOps, nNms] [g1, g2] q := by
  obtain ⟨g0, t0, cs0, f0, d0, p0, g1, t1, cs1, f1, d1, p1, rfl, hg0, ht0, hv0, hd0, hg1, ht1, hv1, hd1, rfl⟩ := trodVars_two h
  obtain rfl := Option.some.inj (Eebg.gOps.symm.trans hg0)
  obtain rfl := Option.some.inj (Eebg.gNms.symm.trans hg1)
  obtain rfl := Option.some.inj (Eebg.tOps.symm.trans ht0)
  obtain rfl := Option.some.inj (Eebg.tNms.symm.trans ht1)
  obtain ⟨f0', k0⟩ := Below.trod (v := .agg cs0) Eebg.laidOut' Eebg.readable50.1 Eebg.readable50.2 ⟨f0, hd0⟩ hb (fun x hx => hlt x (by simp [hx]))
  obtain ⟨f1', k1⟩ := Below.trod (v := .agg cs1) Eebg.laidOut' Eebg.readable54.1 Eebg.readable54.2 ⟨f1, hd1⟩ hb (fun x hx => hlt x (by simp [hx]))
  refine ⟨d0, d1, rfl, 0, 50, cs0, f0', p0, _, hg0, ht0, var?_below hb hg0 (var_lt hg0 hv0) hv0, k0, trodVars_mk1 hg1 ht1 (var?_below hb hg1 (var_lt hg1 hv1) hv1) k1, rfl⟩
end

end Go.Proofs.YoeebwFmt
