import Derived.Test.YoeebwFmtC
import Derived.Deep.RegionHeld3
namespace Go.Proofs.YoeebwFmt
open Go.RowKit

theorem Eebg.info3 : (Eebg.prog.info? 3).map (fun i => (i.zero, i.size, i.bytes)) = some (some (.int .i64 0), 1, 8) := by kernel_rfl

set_option maxRecDepth 100000 in
set_option maxHeartbeats 800000 in
/-- ReadOperands at one operand of two bytes. -/
theorem read1 (bo oo co g off n c : Nat) (x0 x1 : Int) (w : World) (h0 : w.cell? ⟨bo, oo, none⟩ = some (.int .i64 2)) (hg0 : w.cell? ⟨g, off, none⟩ = some (.int .u8 x0)) (hg1 : w.cell? ⟨g, off + 1, none⟩ = some (.int .u8 x1)) (hn : 2 ≤ n) :
    Calls Eebg.prog 14 #[.slice (some ⟨bo, oo, none⟩) 1 co, .slice (some ⟨g, off, none⟩) n c] w fun e w' => ∃ (g' cap' : Nat) (z : Int), e = .returned (.tuple #[.slice (some ⟨g', 0, none⟩) 1 cap', .int .i64 2]) ∧
      w'.ownsRow w.heap.size 3 1 (.slice (some ⟨g', 0, none⟩) 1 cap') 1 [.int .i64 z] ∧ Below w.heap.size w w' := by
  obtain ⟨i0, hi, hz0, hz1, hz2⟩ := info_parts Eebg.info3
  go_enter Eebg.func14, Eebg.ntmps14
  go_wp2
  go_loopw [4, 5, 7, 10] (fun v o _ i wr => (i = .int .i64 0 ∧ v = .slice none 0 0 ∧ o = .int .i64 0 ∧ wr = w) ∨
      ∃ (g' cap' : Nat) (z : Int), i = .int .i64 1 ∧ v = .slice (some ⟨g', 0, none⟩) 1 cap' ∧ o = .int .i64 2 ∧ wr.ownsRow w.heap.size 3 1 (.slice (some ⟨g', 0, none⟩) 1 cap') 1 [.int .i64 z] ∧ Below w.heap.size w wr)
    (fun _ _ _ i _ => 1 - (intOf i).toNat)
  case atStart => exact Or.inl ⟨rfl, rfl, rfl, rfl⟩
  case round =>
    rcases hrel with ⟨rfl, rfl, rfl, rfl⟩ | ⟨g', cap', z, rfl, rfl, rfl, hcz, hbr⟩
    · have lg := World.block_lt_of_cell? _ _ hg0
      have hn1 : (1 : Int) < (n : Int) := by omega
      have hn0 : (0 : Int) < (n : Int) := by omega
      have hm0 : 0 < n := by omega
      have hm1 : 1 < n := by omega
      have hw1 : IntKind.i64.wrap (0 + 1) = 1 := by decide
      have hw2 : IntKind.i64.wrap 1 = 1 := by decide
      go_wp2_with fail
      go_region_held3 (fun w' => w'.cell? ⟨g, off, none⟩ = some (.int .u8 x0) ∧ w'.cell? ⟨g, off + 1, none⟩ = some (.int .u8 x1)) (first | go_keep | exact ⟨(hgrow.cell_far _ (by simp; omega) (by simp [Value.ownBlock])).trans (by go_keep), (hgrow.cell_far _ (by simp; omega) (by simp [Value.ownBlock])).trans (by go_keep)⟩)
        ((refine step_append_lies _ (by rfl) _ _ _ (by rfl) wr.heap.size 3 i0 _ 1 8 Eebg.underlying49 hi hz0 hz1 hz2 rfl (by omega) (.slice none 0 0) 0 [] (by rfl) (World.ownsRow_nil _ _ _ _) ⟨wr.heap.size, 0, none⟩ 1 1 [.int .i64 (bits BinOp.or IntKind.i64 (IntKind.i64.wrap x1) (IntKind.i64.wrap (IntKind.i64.wrap x0 * 256)))] (by rfl) (by rfl) (World.news_of_block (cs := #[.int .i64 (bits BinOp.or IntKind.i64 (IntKind.i64.wrap x1) (IntKind.i64.wrap (IntKind.i64.wrap x0 * 256)))]) (t := 3) (fr := (0, 0)) (heap_alloc_new wr _)) (by simp [Value.oneCell']) (by omega) (by unfold maxLen; omega) (by omega) (by simp) (wr.heap.size + 1) (by simp) ?_; intro gg cap w1 hown1 hgrow hat hlt))
      have hb1 : Below wr.heap.size wr w1 := (((Below.refl wr.heap.size wr).alloc (Nat.le_refl _) _).drew).grown hgrow (by simp) (by simp [Value.ownBlock])
      clear hgrow hat hlt hw1 hw2 hg0 hg1 h0
      go_wp2
      go_roundw
      case rel => exact Or.inr ⟨gg, cap, _, rfl, rfl, rfl, hown1, hb1⟩
      case measure => simp [intOf]
    · go_wp2
      go_ret2
      exact ⟨g', cap', z, rfl, hcz, hbr⟩

set_option maxRecDepth 100000 in
set_option maxHeartbeats 800000 in
/-- ReadOperands at an operand of two bytes and one of one byte. -/
theorem read2 (bo oo co g off n c : Nat) (x0 x1 x2 : Int) (w : World) (h0 : w.cell? ⟨bo, oo, none⟩ = some (.int .i64 2)) (h1 : w.cell? ⟨bo, oo + 1, none⟩ = some (.int .i64 1))
    (hg0 : w.cell? ⟨g, off, none⟩ = some (.int .u8 x0)) (hg1 : w.cell? ⟨g, off + 1, none⟩ = some (.int .u8 x1)) (hg2 : w.cell? ⟨g, off + 2, none⟩ = some (.int .u8 x2)) (hn : 3 ≤ n) :
    Calls Eebg.prog 14 #[.slice (some ⟨bo, oo, none⟩) 2 co, .slice (some ⟨g, off, none⟩) n c] w fun e w' => ∃ (g' cap' : Nat) (z y : Int), e = .returned (.tuple #[.slice (some ⟨g', 0, none⟩) 2 cap', .int .i64 3]) ∧
      w'.ownsRow w.heap.size 3 1 (.slice (some ⟨g', 0, none⟩) 2 cap') 2 [.int .i64 z, .int .i64 y] ∧ Below w.heap.size w w' := by
  obtain ⟨i0, hi, hz0, hz1, hz2⟩ := info_parts Eebg.info3
  go_enter Eebg.func14, Eebg.ntmps14
  go_wp2
  go_loopw [4, 5, 7, 10] (fun v o _ i wr => (i = .int .i64 0 ∧ v = .slice none 0 0 ∧ o = .int .i64 0 ∧ wr = w) ∨
      (∃ (g' cap' : Nat) (z : Int), i = .int .i64 1 ∧ v = .slice (some ⟨g', 0, none⟩) 1 cap' ∧ o = .int .i64 2 ∧ wr.ownsRow w.heap.size 3 1 (.slice (some ⟨g', 0, none⟩) 1 cap') 1 [.int .i64 z] ∧ Below w.heap.size w wr) ∨
      ∃ (g' cap' : Nat) (z y : Int), i = .int .i64 2 ∧ v = .slice (some ⟨g', 0, none⟩) 2 cap' ∧ o = .int .i64 3 ∧ wr.ownsRow w.heap.size 3 1 (.slice (some ⟨g', 0, none⟩) 2 cap') 2 [.int .i64 z, .int .i64 y] ∧ Below w.heap.size w wr)
    (fun _ _ _ i _ => 2 - (intOf i).toNat)
  case atStart => exact Or.inl ⟨rfl, rfl, rfl, rfl⟩
  case round =>
    rcases hrel with ⟨rfl, rfl, rfl, rfl⟩ | ⟨g', cap', z, rfl, rfl, rfl, hcz, hbr⟩ | ⟨g', cap', z, y, rfl, rfl, rfl, hcz, hbr⟩
    · have lg := World.block_lt_of_cell? _ _ hg0
      have hn1 : (1 : Int) < (n : Int) := by omega
      have hn0 : (0 : Int) < (n : Int) := by omega
      have hm0 : 0 < n := by omega
      have hm1 : 1 < n := by omega
      have hw1 : IntKind.i64.wrap (0 + 1) = 1 := by decide
      have hw2 : IntKind.i64.wrap 1 = 1 := by decide
      clear hg2 h1
      go_wp2_with fail
      go_region_held3 (fun w' => w'.cell? ⟨g, off, none⟩ = some (.int .u8 x0) ∧ w'.cell? ⟨g, off + 1, none⟩ = some (.int .u8 x1)) (first | go_keep | exact ⟨(hgrow.cell_far _ (by simp; omega) (by simp [Value.ownBlock])).trans (by go_keep), (hgrow.cell_far _ (by simp; omega) (by simp [Value.ownBlock])).trans (by go_keep)⟩)
        ((refine step_append_lies _ (by rfl) _ _ _ (by rfl) wr.heap.size 3 i0 _ 1 8 Eebg.underlying49 hi hz0 hz1 hz2 rfl (by omega) (.slice none 0 0) 0 [] (by rfl) (World.ownsRow_nil _ _ _ _) ⟨wr.heap.size, 0, none⟩ 1 1 [.int .i64 (bits BinOp.or IntKind.i64 (IntKind.i64.wrap x1) (IntKind.i64.wrap (IntKind.i64.wrap x0 * 256)))] (by rfl) (by rfl) (World.news_of_block (cs := #[.int .i64 (bits BinOp.or IntKind.i64 (IntKind.i64.wrap x1) (IntKind.i64.wrap (IntKind.i64.wrap x0 * 256)))]) (t := 3) (fr := (0, 0)) (heap_alloc_new wr _)) (by simp [Value.oneCell']) (by omega) (by unfold maxLen; omega) (by omega) (by simp) (wr.heap.size + 1) (by simp) ?_; intro gg cap w1 hown1 hgrow hat hlt))
      have hb1 : Below wr.heap.size wr w1 := (((Below.refl wr.heap.size wr).alloc (Nat.le_refl _) _).drew).grown hgrow (by simp) (by simp [Value.ownBlock])
      clear hgrow hat hlt hw1 hw2 hg0 hg1 h0
      go_wp2
      go_roundw
      case rel => exact Or.inr (Or.inl ⟨gg, cap, _, rfl, rfl, rfl, hown1, hb1⟩)
      case measure => simp [intOf]
    · have lg := World.block_lt_of_cell? _ _ hg2
      have lo := World.block_lt_of_cell? _ _ h1
      have q1 : wr.cell? ⟨bo, oo + 1, none⟩ = some (.int .i64 1) := (hbr.cell (p := ⟨bo, oo + 1, none⟩) lo).trans h1
      have q2 : wr.cell? ⟨g, off + 2, none⟩ = some (.int .u8 x2) := (hbr.cell (p := ⟨g, off + 2, none⟩) lg).trans hg2
      have hm2 : 2 < n := by omega
      have hs := hbr.size
      clear h0 h1 hg0 hg1 hg2
      go_wp2_with (at_builtin; refine wpList_append_lies _ rfl _ _ 49 rfl w.heap.size 3 i0 (.int .i64 0) 1 8 Eebg.underlying49 hi hz0 hz1 hz2 rfl (by decide) (.slice (some ⟨g', 0, none⟩) 1 cap') 1 [.int .i64 z] rfl (hcz.alloc _) ⟨wr.heap.size, 0, none⟩ 1 1 [.int .i64 (wrap64 x2)] rfl rfl (cell_one_new _ _ _) (by simp [Value.oneCell']) (by decide) (by unfold maxLen; omega) (by omega) (by simp; omega) (wr.heap.size + 1) (by simp) ?_; intro gg cap w1 hown1 hgrow hat hlt)
      have hb1 : Below w.heap.size w w1 := (hbr.alloc hs _).grown hgrow (by simp; omega) (fun k hk => (hcz.lt k hk).1)
      go_roundw
      case rel => exact Or.inr (Or.inr ⟨gg, cap, z, _, rfl, rfl, rfl, hown1, hb1⟩)
      case measure => simp [intOf]
    · clear h0 h1 hg0 hg1 hg2
      go_wp2
      go_ret2
      exact ⟨g', cap', z, y, rfl, hcz, hbr⟩

end Go.Proofs.YoeebwFmt
