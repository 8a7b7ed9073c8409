import Derived.Test.YoeebwFmtD
import Derived.Stop.FmtLaws
import Derived.Stop.Texts
import GoSem.ClaimData
namespace Go.Proofs.YoeebwFmt
open Go.RowKit Go.Extern.Stop Go.Stop Go.Extern

theorem Eebg.info9 : (Eebg.prog.info? 9).map (fun i => (i.zero, i.size, i.bytes)) = some (some (.string ByteArray.empty), 1, 16) := by kernel_rfl
/-- fmt.Sprintf is a stop: it runs in place. -/
theorem Eebg.call15 (args : Array Value) (w : World) : (callFunc 15 args).run Eebg.prog w = ((FmtStop.sprintf #[9, 81] #[9] args).run Eebg.prog w).andThen fun v w' => .ok (.value v) w' :=
  run_callFunc_extern Eebg.func15 (by kernel_rfl) (by kernel_rfl) (by kernel_rfl) (by kernel_rfl) args w
theorem Eebg.guard (name : String) (w : World) : (FmtStop.guard name).run Eebg.prog w = .ok () w := by kernel_rfl
theorem Eebg.fmtA : FmtStop.printed? ⟨#[37, 48, 52, 100, 32, 37, 45, 55, 115, 32, 37, 45, 53, 100]⟩ 3 = some [(0, 100, false), (1, 115, false), (2, 100, false)] := by kernel_rfl
theorem Eebg.fmtB : FmtStop.printed? ⟨#[37, 48, 52, 100, 32, 37, 45, 55, 115, 32, 37, 45, 53, 100, 32, 37, 45, 53, 100]⟩ 4 = some [(0, 100, false), (1, 115, false), (2, 100, false), (3, 100, false)] := by kernel_rfl
def Eebg.shape3 : List UInt8 := [5, 3, 0, 0, 0, 0, 0, 0, 0, 105, 110, 116]
def Eebg.shape9 : List UInt8 := [12, 6, 0, 0, 0, 0, 0, 0, 0, 115, 116, 114, 105, 110, 103]
theorem Eebg.op3_100 (name : String) (x : Int) (w : World) : (FmtStop.operand name false 100 false (.iface 3 (.int .i64 x))).run Eebg.prog w = .ok (Eebg.shape3, Go.Extern.Stop.digits 8 (x % 2 ^ 64).toNat) w := by kernel_rfl
theorem Eebg.op9_115 (name : String) (s : ByteArray) (w : World) : (FmtStop.operand name false 115 false (.iface 9 (.string s))).run Eebg.prog w = .ok (Eebg.shape9, FmtStop.pack s.data.toList) w := by kernel_rfl

/-- fmt.Sprintf at the format of one operand: whatever the tape answers, a string comes back; one answer has been drawn; nothing else has turned. -/
theorem sprA (g : Nat) (x z : Int) (s : ByteArray) (w : World) (c0 : w.cell? ⟨g, 0, none⟩ = some (.iface 3 (.int .i64 x))) (c1 : w.cell? ⟨g, 1, none⟩ = some (.iface 9 (.string s))) (c2 : w.cell? ⟨g, 2, none⟩ = some (.iface 3 (.int .i64 z))) :
    ∃ t : ByteArray, (callFunc 15 #[.string ⟨#[37, 48, 52, 100, 32, 37, 45, 55, 115, 32, 37, 45, 53, 100]⟩, .slice (some ⟨g, 0, none⟩) 3 3]).run Eebg.prog w = .ok (.value (.string t)) w.drew := by
  rw [Eebg.call15]
  simp [go_sem, Eebg.guard, Eebg.fmtA, Eebg.op3_100, Eebg.op9_115, c0, c1, c2]

/-- The same at the format of two operands. -/
theorem sprB (g : Nat) (x z y : Int) (s : ByteArray) (w : World) (c0 : w.cell? ⟨g, 0, none⟩ = some (.iface 3 (.int .i64 x))) (c1 : w.cell? ⟨g, 1, none⟩ = some (.iface 9 (.string s))) (c2 : w.cell? ⟨g, 2, none⟩ = some (.iface 3 (.int .i64 z)))
    (c3 : w.cell? ⟨g, 3, none⟩ = some (.iface 3 (.int .i64 y))) :
    ∃ t : ByteArray, (callFunc 15 #[.string ⟨#[37, 48, 52, 100, 32, 37, 45, 55, 115, 32, 37, 45, 53, 100, 32, 37, 45, 53, 100]⟩, .slice (some ⟨g, 0, none⟩) 4 4]).run Eebg.prog w = .ok (.value (.string t)) w.drew := by
  rw [Eebg.call15]
  simp [go_sem, Eebg.guard, Eebg.fmtB, Eebg.op3_100, Eebg.op9_115, c0, c1, c2, c3]

/-- At a step of a region that draws its order: the call of fmt.Sprintf. -/
theorem step_spr {ops : Array Oper} {o : Oper} {a : Act} {K : Act → World → Prop} {Q : Exit → Act → World → Prop} {E : Prop} (w : World) (hgd : o.guard = none) (s x : Operand) (tys : Array TypeId)
    (ho : o.op = .call { callee := .value (.func 15), args := #[s, x], argTypes := tys }) (vs vx : Value) (hs : a.eval s = vs) (hx : a.eval x = vx)
    (hrun : ∃ t : ByteArray, (callFunc 15 #[vs, vx]).run Eebg.prog w = .ok (.value (.string t)) w.drew) (h : ∀ t : ByteArray, K (a.put o.dst (.string t)) w.drew) :
    if Region.wanted o (yielded ops a.tmps) = true then Oper.wp Eebg.prog o a w K Q else E := by
  have hw : Region.wanted o (yielded ops a.tmps) = true := by simp [Region.wanted, hgd]
  rw [if_pos hw]
  obtain ⟨t, ht⟩ := hrun
  unfold Oper.wp execOp
  have hf : a.eval (.func 15) = .func (.func 15) #[] #[] := rfl
  simp [ho, resolve, invoke, hs, hx, hf, Deferred.ofValue, ht]
  exact h t

end Go.Proofs.YoeebwFmt
