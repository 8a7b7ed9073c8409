import Derived.Test.YoeebwFmtK
import Derived.Test.YoeebwFmtL
import Derived.Test.YoeebwFmtTie
import Derived.Test.YoeebwFmtCards
import Derived.SevenTiedAt
namespace Go.Proofs.YoeebwFmt
open Go.ChangeShapes Go.WideShapes Go.ChangeAt Go.WideMaps Go.WideElems Go.RowKit Go.Deep
open Go.Extern.Stop Go.Stop Go.Extern

theorem readable6 : ∀ t ∈ [22, 23, 24, 22, 23, 24], Eebg.prog.readableRec t = true ∧ t < Eebg.prog.types.size := by
  intro t ht
  simp only [List.mem_cons, List.not_mem_nil, or_false] at ht
  rcases ht with rfl | rfl | rfl | rfl | rfl | rfl
  · exact Eebg.readable22
  · exact Eebg.readable23
  · exact Eebg.readable24
  · exact Eebg.readable22
  · exact Eebg.readable23
  · exact Eebg.readable24

set_option maxRecDepth 100000 in
theorem two_lifted (os : Os) (started : os.Started) (H : Type) (enc : TypeId × Value → H) :
    ReturnsInTold none {} Eebg.checked os 4 .any Input.okWide ((OpenSpec.ofChange Rows.fnBytecodeFormatInstructionsCountIsAdditiveSpec).preRow enc Eebg.prog Eebg.f4 [] false Rows.fnBytecodeFormatInstructionsCountIsAdditiveRow.laid)
      (fun F => ((OpenSpec.ofChange Rows.fnBytecodeFormatInstructionsCountIsAdditiveSpec).at F).post enc Eebg.prog Eebg.f4 false true false false) (aloneAtReturn Eebg.prog) nothingAlways := by
  refine returnsInTold_of_row (C := Eebg.checked) (s := OpenSpec.ofChange Rows.fnBytecodeFormatInstructionsCountIsAdditiveSpec) (by kernel_rfl) Eebg.own started (by kernel_rfl) Eebg.func4
    (witness_at (enc := enc) (C := Eebg.checked) (World.doorLaid Eebg.prog 61 os) #[.slice none 0 0, .slice none 0 0, .slice none 0 0, .slice none 0 0, .slice none 0 0, .slice none 0 0] rfl (door_shaped os _) (by kernel_rfl)
      (OpenSpec.preRow_of_B rfl 8 (by kernel_rfl) (by kernel_rfl) (door_met os _))) ?_
  intro F W base args ds gs before _ _ hval0 hW _ _ _ hL _
  have hval : ∀ (j : Nat) t v, Eebg.f4.params[j]? = some t → args[j]? = some v → Value.okWide Eebg.prog W .any base t v := hval0
  have hW' := hW
  obtain ⟨p, q, hA0, hV, rfl, _, _⟩ := hW
  have hA : DataW.TrodAll enc Eebg.prog W 0 (fun _ => true) true Eebg.f4.params.toList args.toList ds p := hA0
  rw [Eebg.params4] at hA hval
  have hAk := hA
  obtain ⟨v0, vs0, d0, ds0, p0, q0, hargs0, rfl, rfl, h0, r0⟩ := trodAll_cons hA
  obtain ⟨v1, vs1, d1, ds1, p1, q1, rfl, rfl, rfl, h1, r1⟩ := trodAll_cons r0
  obtain ⟨v2, vs2, d2, ds2, p2, q2, rfl, rfl, rfl, h2, r2⟩ := trodAll_cons r1
  obtain ⟨v3, vs3, d3, ds3, p3, q3, rfl, rfl, rfl, h3, r3⟩ := trodAll_cons r2
  obtain ⟨v4, vs4, d4, ds4, p4, q4, rfl, rfl, rfl, h4, r4⟩ := trodAll_cons r3
  obtain ⟨v5, vs5, d5, ds5, p5, q5, rfl, rfl, rfl, h5, r5⟩ := trodAll_cons r4
  obtain ⟨rfl, rfl, rfl⟩ := trodAll_nil r5
  obtain rfl : args = #[v0, v1, v2, v3, v4, v5] := by apply Array.ext'; exact hargs0
  obtain ⟨a0, n0, c0, f0, rfl, l0, z0, s0⟩ := view_bools Eebg.underlying22 Eebg.underlying4 Eebg.cells4 (okWide_slice Eebg.underlying22 (hval 0 22 v0 rfl rfl)) h0
  obtain ⟨a1, n1, c1, f1, rfl, l1, z1, s1⟩ := view_ints Eebg.underlying23 Eebg.underlying46 Eebg.cells46 (okWide_slice Eebg.underlying23 (hval 1 23 v1 rfl rfl)) h1
  obtain ⟨a2, n2, c2, f2, rfl, l2, z2, s2⟩ := view_ints Eebg.underlying24 Eebg.underlying5 Eebg.cells5 (okWide_slice Eebg.underlying24 (hval 2 24 v2 rfl rfl)) h2
  obtain ⟨a3, n3, c3, f3, rfl, l3, z3, s3⟩ := view_bools Eebg.underlying22 Eebg.underlying4 Eebg.cells4 (okWide_slice Eebg.underlying22 (hval 3 22 v3 rfl rfl)) h3
  obtain ⟨a4, n4, c4, f4, rfl, l4, z4, s4⟩ := view_ints Eebg.underlying23 Eebg.underlying46 Eebg.cells46 (okWide_slice Eebg.underlying23 (hval 4 23 v4 rfl rfl)) h4
  obtain ⟨a5, n5, c5, f5, rfl, l5, z5, s5⟩ := view_ints Eebg.underlying24 Eebg.underlying5 Eebg.cells5 (okWide_slice Eebg.underlying24 (hval 5 24 v5 rfl rfl)) h5
  obtain ⟨b0, o0, e0, b1, o1, e1, m0, m1, hT⟩ := tab_of_laid hL
  refine (law2_any a0 a1 a2 a3 a4 a5 n0 n1 n2 n3 n4 n5 c0 c1 c2 c3 c4 c5 f0 f3 f1 f2 f4 f5 b0 o0 e0 b1 o1 e1 m0 m1 W l0 l1 l2 l3 l4 l5 z0 z1 z2 z3 z4 z5 s0 s1 s2 s3 s4 s5 hT).mono fun e W' ⟨he, hbelow⟩ => ?_
  subst he
  have hlt := hW'.lt
  have hargs := args_again hbelow (ts := [22, 23, 24, 22, 23, 24]) readable6 hAk (fun x hx => hlt x (List.mem_append_left _ hx))
  obtain ⟨g1, g2, rfl, hvars⟩ := vars_again hV hbelow (fun x hx => hlt x (List.mem_append_right _ hx))
  exact ⟨_, rfl, _, _, _, [], p0 ++ (p1 ++ (p2 ++ (p3 ++ (p4 ++ (p5 ++ []))))), q, hW', trodAll_mk1 (shut_bool Eebg.underlying4 true), hargs, hvars, hbelow.frame _, fun h => by cases h⟩

theorem additive_told : Rows.FnBytecodeFormatInstructionsCountIsAdditiveToldSaid :=
  Claim7.holds_of_told_tied_any_at .later 4 Eebg.f4 "fmt.Sprintf" [] [] _ _ _ _ _ (by kernel_rfl) rfl rfl rfl Eebg.laidOut (by kernel_rfl) rfl ⟨rfl, rfl, rfl, rfl, rfl, rfl, rfl⟩ rfl rfl (by kernel_rfl) (by kernel_rfl) Eebg.func4 (by kernel_rfl)
    (of_decide_eq_true (by kernel_rfl)) (by unfold Func.isWrapper; rw [if_neg (of_decide_eq_false (by kernel_rfl))]; exact ⟨rfl, rfl⟩) Eebg.stops.symm rfl Eebg.stopKnobs.symm (by kernel_rfl)
    (by kernel_rfl) (by kernel_rfl) (by kernel_rfl) (by kernel_rfl) (by kernel_rfl) (by kernel_rfl) (by kernel_rfl) (by kernel_rfl) (by kernel_rfl) rfl (by kernel_rfl) rfl rfl
    rfl rfl
    rfl (by kernel_rfl) (by kernel_rfl) (by kernel_rfl) (by decide) (by kernel_rfl) fnBytecodeFormatInstructionsCountIsAdditive_row_tie
    (OpenClaim.moreEntering_of (by kernel_rfl) (by kernel_rfl) (by kernel_rfl) (by kernel_rfl) (by kernel_rfl) (by kernel_rfl) (by kernel_rfl) (by kernel_rfl) (by kernel_rfl) (by kernel_rfl))
    ⟨_, WideRow.started_initial, Eebg.quiet _⟩
    (fun os started _ H enc _ => two_lifted os started H enc)

end Go.Proofs.YoeebwFmt
