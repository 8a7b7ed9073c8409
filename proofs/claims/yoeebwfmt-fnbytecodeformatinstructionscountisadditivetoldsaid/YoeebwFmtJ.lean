import Derived.Test.YoeebwFmtI
namespace Go.Proofs.YoeebwFmt
open Go.ChangeShapes Go.WideShapes Go.ChangeAt Go.WideMaps Go.WideElems Go.RowKit Go.Deep
open Go.Extern.Stop Go.Stop Go.Extern

section
variable {H : Type} {enc : TypeId × Value → H}

/-- A slice of integers that came in, as the walks want it. -/
theorem view_ints {t e : TypeId} {k : IntKind} {W : World} {v : Value} {d : DataW H} {p : List MemPlace} (ht : Eebg.prog.underlying t = some (.slice e)) (he : Eebg.prog.underlying e = some (.int k)) (hc : Eebg.prog.cellsOf e = 1)
    (hv : ∃ a len cap, v = .slice a len cap) (h : DataW.Trod enc Eebg.prog W 0 (fun _ => true) true t v d p) :
    ∃ (ao : Option Addr) (n cap : Nat) (f : Nat → Int), v = .slice ao n cap ∧ n ≤ 9223372036854775807 ∧ (ao = none → n = 0 ∧ cap = 0) ∧ Slc W ao n (fun j => .int k (f j)) := by
  obtain ⟨a0, len0, cap0, rfl⟩ := hv
  obtain ⟨fuel, hf⟩ := h
  rcases open_ints ht he hc hf with ⟨hcs, _⟩ | ⟨a, len, cap, zs, hcs, _, hl, hm, hz, _, hcell, _⟩
  · have e : Value.slice a0 len0 cap0 = .slice none 0 0 := by simpa [Value.cells] using hcs
    cases e
    exact ⟨none, 0, 0, fun _ => 0, rfl, by omega, fun _ => ⟨rfl, rfl⟩, fun h => absurd h (Nat.lt_irrefl 0)⟩
  · have e : Value.slice a0 len0 cap0 = .slice (some a) len cap := by simpa [Value.cells] using hcs
    cases e
    simp only [if_true] at hz
    refine ⟨some a, len0, cap0, fun j => zs.getD j 0, rfl, by unfold maxLen at hm; omega, (fun h => by cases h), fun hpos => ?_⟩
    obtain ⟨b, off, rfl, hc'⟩ := ints_at hcell (by omega)
    exact ⟨b, off, rfl, World.block_lt_of_cell? _ _ (hc' 0 (by omega)), fun j hj => hc' j (by omega)⟩

/-- The same of a slice of bools. -/
theorem view_bools {t e : TypeId} {W : World} {v : Value} {d : DataW H} {p : List MemPlace} (ht : Eebg.prog.underlying t = some (.slice e)) (he : Eebg.prog.underlying e = some .bool) (hc : Eebg.prog.cellsOf e = 1)
    (hv : ∃ a len cap, v = .slice a len cap) (h : DataW.Trod enc Eebg.prog W 0 (fun _ => true) true t v d p) :
    ∃ (ao : Option Addr) (n cap : Nat) (f : Nat → Bool), v = .slice ao n cap ∧ n ≤ 9223372036854775807 ∧ (ao = none → n = 0 ∧ cap = 0) ∧ Slc W ao n (fun j => .bool (f j)) := by
  obtain ⟨a0, len0, cap0, rfl⟩ := hv
  obtain ⟨fuel, hf⟩ := h
  rcases open_slice1 ht hc hf with ⟨hcs, _⟩ | ⟨a, len, cap, m, n, V, D, Pl, hcs, _, hl, hm, hmm, _, hx⟩
  · have e : Value.slice a0 len0 cap0 = .slice none 0 0 := by simpa [Value.cells] using hcs
    cases e
    exact ⟨none, 0, 0, fun _ => false, rfl, by omega, fun _ => ⟨rfl, rfl⟩, fun h => absurd h (Nat.lt_irrefl 0)⟩
  · have e : Value.slice a0 len0 cap0 = .slice (some a) len cap := by simpa [Value.cells] using hcs
    cases e
    simp only [if_true] at hmm
    have hB : ∀ i, i < m → ∃ b : Bool, V i = .bool b := fun i hi => by
      obtain ⟨b, h1, _⟩ := DataW.trod_bool he (hx i hi).2
      exact ⟨b, by simpa using h1⟩
    obtain ⟨B, hB⟩ := choose_lt hB
    refine ⟨some a, len0, cap0, B, rfl, by unfold maxLen at hm; omega, (fun h => by cases h), fun hpos => ?_⟩
    obtain ⟨b, off, spot⟩ := a
    have hspot : spot = none := by simpa [Addr.add] using World.cell?_spot (hx 0 (by omega)).1
    subst hspot
    have hc' : ∀ j, j < m → W.cell? ⟨b, off + j, none⟩ = some (.bool (B j)) := fun j hj => by
      rw [← Go.WideShapes.add_plain, (hx j hj).1, hB j hj]
    exact ⟨b, off, rfl, World.block_lt_of_cell? _ _ (hc' 0 (by omega)), fun j hj => hc' j (by omega)⟩
end

theorem lits_inj {H : Type} {k : IntKind} : ∀ {xs ys : List Int}, lits (H := H) k xs = lits k ys → xs = ys
  | [], [], _ => rfl
  | [], _ :: _, h => by simp [lits] at h
  | _ :: _, [], h => by simp [lits] at h
  | x :: xs, y :: ys, h => by
    simp only [lits, List.map_cons, List.cons.injEq, DataW.lit.injEq, Lit.int.injEq, true_and] at h
    rw [h.1, lits_inj h.2]

/-- A slice of ints of a table, whose datum is known. -/
theorem slice_at {W : World} {fuel : Nat} {cs : List Value} {x : DataW Unit × List MemPlace} (zs0 : List Int) (hne : 0 < zs0.length) (h : DataW.trod (fun _ => ()) Eebg.prog W 0 (fun _ => true) false fuel 49 cs = some x) (hx : x.1 = .slice (lits .i64 zs0) []) :
    ∃ b o cap, cs = [.slice (some ⟨b, o, none⟩) zs0.length cap] ∧ ∀ i, i < zs0.length → W.cell? ⟨b, o + i, none⟩ = some (.int .i64 (zs0.getD i 0)) := by
  rcases open_ints Eebg.underlying49 Eebg.underlying3 Eebg.cells3 h with ⟨_, e⟩ | ⟨a, len, cap, zs, hcs, _, hl, _, hz, e, hcell, _⟩
  · rw [e] at hx; cases hx
  · rw [e] at hx
    simp only [DataW.slice.injEq] at hx
    obtain ⟨e1, e2⟩ := hx
    have d2 : zs.drop len = [] := by simpa [lits] using e2
    have d1 : zs.take len = zs0 := lits_inj e1
    have d3 : zs = zs0 := by have := List.take_append_drop len zs; rw [d1, d2, List.append_nil] at this; exact this.symm
    subst d3
    have hlen : len = zs.length := by
      have h1 : (zs.take len).length = zs.length := by rw [d1]
      have h2 : zs.length ≤ len := by rw [List.length_take] at h1; omega
      simp only [if_true] at hz
      omega
    obtain ⟨b, off, rfl, hc'⟩ := ints_at hcell hne
    exact ⟨b, off, cap, by rw [hcs, hlen], hc'⟩

/-- One cell of a package-level array of one-cell elements. -/
theorem cell_of_drop {W : World} {n : String} {g i : Nat} {cs : Array Value} {c : Value} (hg : Eebg.prog.globalNamed n = some g) (hv : W.var? Eebg.prog n = some cs) (h : (cs.toList.drop (i * 1)).take 1 = [c]) : W.cell? ⟨g, i, none⟩ = some c := by
  rw [World.var?_cell hg hv i]
  have : (cs.toList.drop (i * 1))[0]? = some c := by
    have h0 := congrArg (·[0]?) h
    simpa [List.getElem?_take] using h0
  simpa using this

def aggs : DataW Unit → List (DataW Unit)
  | .agg l => l
  | _ => []
def opsLit : List (DataW Unit) := aggs Rows.laid_github_com_d5_tengo_v2_parser_OpcodeOperands

/-- WHAT THE ROW's 'laid' GIVES THE WALKS. -/
theorem tab_of_laid {W : World} (h : laidMetH Eebg.prog Rows.fnBytecodeFormatInstructionsOneLinePerInstructionRow.laid W) : ∃ b0 o0 c0 b1 o1 c1 n0 n1, Tab W b0 o0 c0 b1 o1 c1 n0 n1 := by
  rw [MakeChecks.laidMetH_plain _ _ _ (by kernel_rfl)] at h
  obtain ⟨ps, ⟨g1, t1, cs1, f1, p1, q1, hg1, ht1, hv1, hd1, ⟨g0, t0, cs0, f0, p0, q0, hg0, ht0, hv0, hd0, _, _⟩, _⟩, _, _⟩ := h
  obtain rfl := Option.some.inj (Eebg.gOps.symm.trans hg0)
  obtain rfl := Option.some.inj (Eebg.gNms.symm.trans hg1)
  obtain rfl := Option.some.inj (Eebg.tOps.symm.trans ht0)
  obtain rfl := Option.some.inj (Eebg.tNms.symm.trans ht1)
  obtain ⟨xs, m, rfl, hx, _, _, hel⟩ := DataW.trod_array Eebg.underlying50 hd0
  obtain ⟨ys, k, rfl, _, _, hly, hey⟩ := DataW.trod_array Eebg.underlying54 hd1
  simp only [Prod.mk.injEq] at hx
  have hxs : opsLit = xs.map (·.1) := congrArg aggs hx.1
  rw [Eebg.cells49] at hel
  rw [Eebg.cells9] at hey
  have d0 : (xs.map (·.1))[0]? = some (.slice (lits .i64 [2]) []) := by rw [← hxs]; rfl
  have d35 : (xs.map (·.1))[35]? = some (.slice (lits .i64 [2, 1]) []) := by rw [← hxs]; rfl
  rw [List.getElem?_map, Option.map_eq_some_iff] at d0 d35
  obtain ⟨x0, h0, e0⟩ := d0
  obtain ⟨x35, h35, e35⟩ := d35
  obtain ⟨b0, o0, c0, k0, r0⟩ := slice_at [2] (by decide) ((hel 0 (by decide)).trans h0) e0
  obtain ⟨b1, o1, c1, k1, r1⟩ := slice_at [2, 1] (by decide) ((hel 35 (by decide)).trans h35) e35
  have y0 : ys[0]? = some ys[0] := List.getElem?_eq_getElem (by omega)
  have y35 : ys[35]? = some ys[35] := List.getElem?_eq_getElem (by omega)
  obtain ⟨n0, s0, _⟩ := DataW.trod_string Eebg.underlying9 ((hey 0 (by decide)).trans y0)
  obtain ⟨n1, s1, _⟩ := DataW.trod_string Eebg.underlying9 ((hey 35 (by decide)).trans y35)
  exact ⟨b0, o0, c0, b1, o1, c1, n0, n1, cell_of_drop hg0 hv0 k0, cell_of_drop hg0 hv0 k1, by simpa using r0 0 (by decide), by simpa using r1 0 (by decide), by simpa using r1 1 (by decide), cell_of_drop hg1 hv1 s0, cell_of_drop hg1 hv1 s1⟩

end Go.Proofs.YoeebwFmt
