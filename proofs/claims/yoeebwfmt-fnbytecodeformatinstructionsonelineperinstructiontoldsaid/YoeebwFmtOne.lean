import Derived.Test.YoeebwFmtK
import Derived.Test.YoeebwFmtTie
import Derived.Test.YoeebwFmtCards
import Derived.SevenTiedAt
namespace Go.Proofs.YoeebwFmt
open Go.ChangeShapes Go.WideShapes Go.ChangeAt Go.WideMaps Go.WideElems Go.RowKit Go.Deep
open Go.Extern.Stop Go.Stop Go.Extern

set_option maxRecDepth 100000 in
theorem one_lifted (os : Os) (started : os.Started) (H : Type) (enc : TypeId × Value → H) :
    ReturnsInTold none {} Eebg.checked os 3 .any Input.okWide ((OpenSpec.ofChange Rows.fnBytecodeFormatInstructionsOneLinePerInstructionSpec).preRow enc Eebg.prog Eebg.f3 [] false Rows.fnBytecodeFormatInstructionsOneLinePerInstructionRow.laid)
      (fun F => ((OpenSpec.ofChange Rows.fnBytecodeFormatInstructionsOneLinePerInstructionSpec).at F).post enc Eebg.prog Eebg.f3 false true false false) (aloneAtReturn Eebg.prog) nothingAlways := by
  refine returnsInTold_of_row (C := Eebg.checked) (s := OpenSpec.ofChange Rows.fnBytecodeFormatInstructionsOneLinePerInstructionSpec) (by kernel_rfl) Eebg.own started (by kernel_rfl) Eebg.func3
    (witness_at (enc := enc) (C := Eebg.checked) (World.doorLaid Eebg.prog 61 os) #[.slice none 0 0, .slice none 0 0, .slice none 0 0] rfl (door_shaped os _) (by kernel_rfl)
      (OpenSpec.preRow_of_B rfl 8 (by kernel_rfl) (by kernel_rfl) (door_met os _))) ?_
  intro F W base args ds gs before _ _ hval0 hW _ _ _ hL _
  have hval : ∀ (j : Nat) t v, Eebg.f3.params[j]? = some t → args[j]? = some v → Value.okWide Eebg.prog W .any base t v := hval0
  have hW' := hW
  obtain ⟨p, q, hA0, hV, rfl, _, _⟩ := hW
  have hA : DataW.TrodAll enc Eebg.prog W 0 (fun _ => true) true Eebg.f3.params.toList args.toList ds p := hA0
  rw [Eebg.params3] at hA hval
  have hAk := hA
  obtain ⟨v0, v1, v2, d0, d1, d2, p0, p1, p2, rfl, rfl, rfl, h0, h1, h2⟩ := trodAll_three hA
  obtain ⟨a0, n0, c0, f0, rfl, l0, z0, s0⟩ := view_bools Eebg.underlying22 Eebg.underlying4 Eebg.cells4 (okWide_slice Eebg.underlying22 (hval 0 22 v0 rfl rfl)) h0
  obtain ⟨a1, n1, c1, f1, rfl, l1, z1, s1⟩ := view_ints Eebg.underlying23 Eebg.underlying46 Eebg.cells46 (okWide_slice Eebg.underlying23 (hval 1 23 v1 rfl rfl)) h1
  obtain ⟨a2, n2, c2, f2, rfl, l2, z2, s2⟩ := view_ints Eebg.underlying24 Eebg.underlying5 Eebg.cells5 (okWide_slice Eebg.underlying24 (hval 2 24 v2 rfl rfl)) h2
  obtain ⟨b0, o0, e0, b1, o1, e1, m0, m1, hT⟩ := tab_of_laid hL
  refine (law1_any a0 a1 a2 n0 n1 n2 c0 c1 c2 f0 f1 f2 b0 o0 e0 b1 o1 e1 m0 m1 W l0 l1 l2 z0 z1 z2 s0 s1 s2 hT).mono fun e W' ⟨he, hbelow⟩ => ?_
  subst he
  have hlt := hW'.lt
  have hargs := args_again hbelow (ts := [22, 23, 24]) (fun t ht => by simp at ht; rcases ht with rfl | rfl | rfl; exact Eebg.readable22; exact Eebg.readable23; exact Eebg.readable24) hAk (fun x hx => hlt x (List.mem_append_left _ hx))
  obtain ⟨g1, g2, rfl, hvars⟩ := vars_again hV hbelow (fun x hx => hlt x (List.mem_append_right _ hx))
  exact ⟨_, rfl, _, _, _, [], p0 ++ p1 ++ p2, q, hW', trodAll_mk1 (shut_bool Eebg.underlying4 true), hargs, hvars, hbelow.frame _, fun h => by cases h⟩

theorem oneLine_told : Rows.FnBytecodeFormatInstructionsOneLinePerInstructionToldSaid :=
  Claim7.holds_of_told_tied_any_at .later 3 Eebg.f3 "fmt.Sprintf" [] [] _ _ _ _ _ (by kernel_rfl) rfl rfl rfl Eebg.laidOut (by kernel_rfl) rfl ⟨rfl, rfl, rfl, rfl, rfl, rfl, rfl⟩ rfl rfl (by kernel_rfl) (by kernel_rfl) Eebg.func3 (by kernel_rfl)
    (of_decide_eq_true (by kernel_rfl)) (by unfold Func.isWrapper; rw [if_neg (of_decide_eq_false (by kernel_rfl))]; exact ⟨rfl, rfl⟩) Eebg.stops.symm rfl Eebg.stopKnobs.symm (by kernel_rfl)
    (by kernel_rfl) (by kernel_rfl) (by kernel_rfl) (by kernel_rfl) (by kernel_rfl) (by kernel_rfl) (by kernel_rfl) (by kernel_rfl) (by kernel_rfl) rfl (by kernel_rfl) rfl rfl
    rfl rfl
    rfl (by kernel_rfl) (by kernel_rfl) (by kernel_rfl) (by decide) (by kernel_rfl) fnBytecodeFormatInstructionsOneLinePerInstruction_row_tie
    (OpenClaim.moreEntering_of (by kernel_rfl) (by kernel_rfl) (by kernel_rfl) (by kernel_rfl) (by kernel_rfl) (by kernel_rfl) (by kernel_rfl) (by kernel_rfl) (by kernel_rfl) (by kernel_rfl))
    ⟨_, WideRow.started_initial, Eebg.quiet _⟩
    (fun os started _ H enc _ => one_lifted os started H enc)

end Go.Proofs.YoeebwFmt
