import Derived.Test.YoeebwFmtProg
import Derived.WalkKit
import Derived.WalkSpells
import Derived.WalkLawsBesides
import Derived.KernelRfl
namespace Go.Proofs.YoeebwFmt
open Go.RowKit

theorem Eebg.info4 : (Eebg.prog.info? 4).map (fun i => (i.zero, i.size, i.bytes)) = some (some (.bool false), 1, 1) := by kernel_rfl
theorem Eebg.info46 : (Eebg.prog.info? 46).map (fun i => (i.zero, i.size, i.bytes)) = some (some (.int .u16 0), 1, 2) := by kernel_rfl
theorem Eebg.info5 : (Eebg.prog.info? 5).map (fun i => (i.zero, i.size, i.bytes)) = some (some (.int .u8 0), 1, 1) := by kernel_rfl

/-- A slice of n elements whose element j is the one cell 'f j': where there is an element, it lies at a plain address. -/
def Slc (w : World) (ao : Option Addr) (n : Nat) (f : Nat → Value) : Prop :=
  0 < n → ∃ b off, ao = some ⟨b, off, none⟩ ∧ b < w.heap.size ∧ ∀ j, j < n → w.cell? ⟨b, off + j, none⟩ = some (f j)

/-- What a clone leaves: n elements in new memory. -/
def New (w w' : World) (ao : Option Addr) (n : Nat) (f : Nat → Value) : Prop :=
  0 < n → ∃ g, ao = some ⟨g, 0, none⟩ ∧ w.heap.size ≤ g ∧ g < w'.heap.size ∧ ∀ j, j < n → w'.cell? ⟨g, j, none⟩ = some (f j)

theorem Slc.below {B : Nat} {w w' : World} {ao : Option Addr} {n : Nat} {f : Nat → Value} (h : Slc w ao n f) (hb : Below B w w') (hB : w.heap.size ≤ B) : Slc w' ao n f := by
  intro hn
  obtain ⟨b, off, e, hlt, hc⟩ := h hn
  exact ⟨b, off, e, Nat.lt_of_lt_of_le hlt hb.size, fun j hj => (hb.cell (p := ⟨b, off + j, none⟩) (by show b < B; omega)).trans (hc j hj)⟩

theorem New.slc {w w' : World} {ao : Option Addr} {n : Nat} {f : Nat → Value} (h : New w w' ao n f) : Slc w' ao n f := by
  intro hn
  obtain ⟨g, e, _, hlt, hc⟩ := h hn
  exact ⟨g, 0, e, hlt, fun j hj => by rw [Nat.zero_add]; exact hc j hj⟩

theorem New_zero (w w' : World) (ao : Option Addr) (f : Nat → Value) : New w w' ao 0 f := fun h => absurd h (Nat.lt_irrefl 0)

/-- zzMin3 as a plain function. -/
def m3 (a b c : Int) : Int := if c < (if b < a then b else a) then c else (if b < a then b else a)
theorem ret_int {k : IntKind} {a b : Int} (h : a = b) : Ending.returned (.int k a) = .returned (.int k b) := by rw [h]

theorem min3_any (a b c : Int) (w : World) :
    Calls Eebg.prog 9 #[.int .i64 a, .int .i64 b, .int .i64 c] w fun e w' => e = .returned (.int .i64 (m3 a b c)) ∧ w' = w := by
  have e : m3 a b c = if c < (if b < a then b else a) then c else (if b < a then b else a) := rfl
  by_cases h1 : b < a
  · rw [if_pos h1] at e
    by_cases h2 : c < b
    · rw [if_pos h2] at e
      rw [e]
      clear e
      go_enter Eebg.func9, Eebg.ntmps9
      go_wp2
      go_ret
      exact ⟨rfl, rfl⟩
    · rw [if_neg h2] at e
      rw [e]
      clear e
      go_enter Eebg.func9, Eebg.ntmps9
      go_wp2
      go_ret
      exact ⟨rfl, rfl⟩
  · rw [if_neg h1] at e
    by_cases h2 : c < a
    · rw [if_pos h2] at e
      rw [e]
      clear e
      go_enter Eebg.func9, Eebg.ntmps9
      go_wp2
      go_ret
      exact ⟨rfl, rfl⟩
    · rw [if_neg h2] at e
      rw [e]
      clear e
      go_enter Eebg.func9, Eebg.ntmps9
      go_wp2
      go_ret
      exact ⟨rfl, rfl⟩

/-- One store of a clone's round: the cells so far. -/
theorem cl_step {xs : List Value} {n k : Nat} {f : Nat → Value} (hl : xs.length = n) (hlt : k < n) (hx : ∀ j, j < k → xs[j]? = some (f j)) :
    ∀ j, j < k + 1 → (xs.set k (f k))[j]? = some (f j) := by
  intro j hj
  rw [List.getElem?_set]
  by_cases hjk : k = j
  · subst hjk
    simp [hl, hlt]
  · rw [if_neg hjk]
    exact hx j (by omega)

set_option maxHeartbeats 400000 in
theorem cloneBool_some (a : Addr) (n cap : Nat) (f : Nat → Bool) (w : World) (hn : n ≤ 65536) (hs : Slc w (some a) n (fun j => .bool (f j))) :
    Calls Eebg.prog 6 #[.slice (some a) n cap] w fun e w' => ∃ ao' cap', e = .returned (.slice ao' n cap') ∧ New w w' ao' n (fun j => .bool (f j)) ∧ Below w.heap.size w w' := by
  obtain ⟨i0, hi, hz0, hz1, hz2⟩ := info_parts Eebg.info4
  have qnil : ∀ (w : World) (a : Option Addr) (n c n' c' : Nat), (binOp .eql 22 (.slice a n c) (.slice none n' c')).run Eebg.prog w = .ok (.bool a.isNone) w := fun w a n c n' c' => Lib.run_eql_slice_nil w _ _ a n c n' c' Eebg.underlying22
  go_enter Eebg.func6, Eebg.ntmps6
  go_wp2_with (first | (at_make; refine wpList_make_full _ rfl _ _ 22 rfl w.heap.size 4 i0 (.bool false) 1 Eebg.underlying22 hi hz0 hz1 _ _ _ _ n rfl rfl (by omega) (by omega) (by rw [hz2]; omega) (by unfold maxLen; omega) (Nat.le_refl _) ?_; intro w1 hown1 hgrow1))
  have hb1 : Below w.heap.size w w1 := (Below.refl _ w).grown hgrow1 (Nat.le_refl _) (by simp)
  have hl1 := hown1.1
  rw [Nat.mul_one] at hl1 hown1
  clear hgrow1 qnil
  go_loopw [4] (fun i wr => ∃ (k : Nat) (xs : List Value), k ≤ n ∧ i = .int .i64 k ∧ wr.ownsRow w.heap.size 4 1 (.slice (some ⟨w.heap.size, 0, none⟩) n n) n xs ∧ xs.length = n ∧ (∀ j, j < k → xs[j]? = some (.bool (f j))) ∧ Below w.heap.size w wr)
    (fun i _ => n - (intOf i).toNat)
  case atStart => exact ⟨0, _, Nat.zero_le _, rfl, hown1, hl1, fun j hj => absurd hj (Nat.not_lt_zero _), hb1⟩
  case round =>
    obtain ⟨k, xs, hk, rfl, hown, hl, hx, hbr⟩ := hrel
    clear hown1 hl1 hb1
    by_cases hlt : k < n
    · obtain ⟨b, off, ea, hbl, hc⟩ := hs (by omega)
      obtain rfl := Option.some.inj ea
      have hck : wr.cell? ⟨b, off + k, none⟩ = some (.bool (f k)) := (hbr.cell (p := ⟨b, off + k, none⟩) hbl).trans (hc k hlt)
      have hst := (hown.stored k (.bool (f k))).1
      have hfz := hown.frozenAt k
      have hcl : wr.cell? ⟨w.heap.size, k, none⟩ = xs[k]? := hown.cellAt k (by omega)
      have hxk : xs[k]? = some xs[k] := List.getElem?_eq_getElem (by omega)
      rw [hxk] at hcl
      have hstep := cl_step (f := fun j => .bool (f j)) hl hlt hx
      have hb2 : Below w.heap.size w (wr.setCell ⟨w.heap.size, k, none⟩ (.bool (f k))) := hbr.setCell (p := ⟨w.heap.size, k, none⟩) (Nat.le_refl _) _
      clear hc hs hxk
      go_wp2
      go_roundw
      case rel => exact ⟨k + 1, xs.set k (.bool (f k)), by omega, by go_num, hst, by rw [List.length_set]; exact hl, hstep, hb2⟩
      case measure => simp [intOf]; omega
    · have hfin : New w wr (some ⟨w.heap.size, 0, none⟩) n (fun j => .bool (f j)) := by
        intro hpos
        have hcc : ∀ j, j < n → wr.cell? ⟨w.heap.size, j, none⟩ = some (.bool (f j)) := fun j hj => (hown.cellAt j (by omega)).trans (hx j (by omega))
        exact ⟨w.heap.size, rfl, Nat.le_refl _, World.block_lt_of_cell? _ _ (hcc 0 hpos), hcc⟩
      clear hown hx hs
      go_wp2
      go_ret
      exact ⟨_, _, rfl, hfin, hbr⟩

theorem cloneBool_none (w : World) (f : Nat → Value) :
    Calls Eebg.prog 6 #[.slice none 0 0] w fun e w' => ∃ ao' cap', e = .returned (.slice ao' 0 cap') ∧ New w w' ao' 0 f ∧ Below w.heap.size w w' := by
  have qnil : ∀ (w : World) (a : Option Addr) (n c n' c' : Nat), (binOp .eql 22 (.slice a n c) (.slice none n' c')).run Eebg.prog w = .ok (.bool a.isNone) w := fun w a n c n' c' => Lib.run_eql_slice_nil w _ _ a n c n' c' Eebg.underlying22
  go_enter Eebg.func6, Eebg.ntmps6
  go_wp2
  go_ret
  exact ⟨_, _, rfl, New_zero _ _ _ _, Below.refl _ _⟩

/-- The clone of whatever slice came in. -/
theorem cloneBool_any (ao : Option Addr) (n cap : Nat) (f : Nat → Bool) (w : World) (hn : n ≤ 65536) (h0 : ao = none → n = 0 ∧ cap = 0) (hs : Slc w ao n (fun j => .bool (f j))) :
    Calls Eebg.prog 6 #[.slice ao n cap] w fun e w' => ∃ ao' cap', e = .returned (.slice ao' n cap') ∧ New w w' ao' n (fun j => .bool (f j)) ∧ Below w.heap.size w w' := by
  cases ao with
  | some a => exact cloneBool_some a n cap f w hn hs
  | none =>
    obtain ⟨rfl, rfl⟩ := h0 rfl
    exact cloneBool_none w _

set_option maxHeartbeats 400000 in
theorem cloneU16_some (a : Addr) (n cap : Nat) (f : Nat → Int) (w : World) (hn : n ≤ 65536) (hs : Slc w (some a) n (fun j => .int .u16 (f j))) :
    Calls Eebg.prog 7 #[.slice (some a) n cap] w fun e w' => ∃ ao' cap', e = .returned (.slice ao' n cap') ∧ New w w' ao' n (fun j => .int .u16 (f j)) ∧ Below w.heap.size w w' := by
  obtain ⟨i0, hi, hz0, hz1, hz2⟩ := info_parts Eebg.info46
  have qnil : ∀ (w : World) (a : Option Addr) (n c n' c' : Nat), (binOp .eql 23 (.slice a n c) (.slice none n' c')).run Eebg.prog w = .ok (.bool a.isNone) w := fun w a n c n' c' => Lib.run_eql_slice_nil w _ _ a n c n' c' Eebg.underlying23
  go_enter Eebg.func7, Eebg.ntmps7
  go_wp2_with (first | (at_make; refine wpList_make_full _ rfl _ _ 23 rfl w.heap.size 46 i0 (.int .u16 0) 1 Eebg.underlying23 hi hz0 hz1 _ _ _ _ n rfl rfl (by omega) (by omega) (by rw [hz2]; omega) (by unfold maxLen; omega) (Nat.le_refl _) ?_; intro w1 hown1 hgrow1))
  have hb1 : Below w.heap.size w w1 := (Below.refl _ w).grown hgrow1 (Nat.le_refl _) (by simp)
  have hl1 := hown1.1
  rw [Nat.mul_one] at hl1 hown1
  clear hgrow1 qnil
  go_loopw [4] (fun i wr => ∃ (k : Nat) (xs : List Value), k ≤ n ∧ i = .int .i64 k ∧ wr.ownsRow w.heap.size 46 1 (.slice (some ⟨w.heap.size, 0, none⟩) n n) n xs ∧ xs.length = n ∧ (∀ j, j < k → xs[j]? = some (.int .u16 (f j))) ∧ Below w.heap.size w wr)
    (fun i _ => n - (intOf i).toNat)
  case atStart => exact ⟨0, _, Nat.zero_le _, rfl, hown1, hl1, fun j hj => absurd hj (Nat.not_lt_zero _), hb1⟩
  case round =>
    obtain ⟨k, xs, hk, rfl, hown, hl, hx, hbr⟩ := hrel
    clear hown1 hl1 hb1
    by_cases hlt : k < n
    · obtain ⟨b, off, ea, hbl, hc⟩ := hs (by omega)
      obtain rfl := Option.some.inj ea
      have hck : wr.cell? ⟨b, off + k, none⟩ = some (.int .u16 (f k)) := (hbr.cell (p := ⟨b, off + k, none⟩) hbl).trans (hc k hlt)
      have hst := (hown.stored k (.int .u16 (f k))).1
      have hfz := hown.frozenAt k
      have hcl : wr.cell? ⟨w.heap.size, k, none⟩ = xs[k]? := hown.cellAt k (by omega)
      have hxk : xs[k]? = some xs[k] := List.getElem?_eq_getElem (by omega)
      rw [hxk] at hcl
      have hstep := cl_step (f := fun j => .int .u16 (f j)) hl hlt hx
      have hb2 : Below w.heap.size w (wr.setCell ⟨w.heap.size, k, none⟩ (.int .u16 (f k))) := hbr.setCell (p := ⟨w.heap.size, k, none⟩) (Nat.le_refl _) _
      clear hc hs hxk
      go_wp2
      go_roundw
      case rel => exact ⟨k + 1, xs.set k (.int .u16 (f k)), by omega, by go_num, hst, by rw [List.length_set]; exact hl, hstep, hb2⟩
      case measure => simp [intOf]; omega
    · have hfin : New w wr (some ⟨w.heap.size, 0, none⟩) n (fun j => .int .u16 (f j)) := by
        intro hpos
        have hcc : ∀ j, j < n → wr.cell? ⟨w.heap.size, j, none⟩ = some (.int .u16 (f j)) := fun j hj => (hown.cellAt j (by omega)).trans (hx j (by omega))
        exact ⟨w.heap.size, rfl, Nat.le_refl _, World.block_lt_of_cell? _ _ (hcc 0 hpos), hcc⟩
      clear hown hx hs
      go_wp2
      go_ret
      exact ⟨_, _, rfl, hfin, hbr⟩

theorem cloneU16_none (w : World) (f : Nat → Value) :
    Calls Eebg.prog 7 #[.slice none 0 0] w fun e w' => ∃ ao' cap', e = .returned (.slice ao' 0 cap') ∧ New w w' ao' 0 f ∧ Below w.heap.size w w' := by
  have qnil : ∀ (w : World) (a : Option Addr) (n c n' c' : Nat), (binOp .eql 23 (.slice a n c) (.slice none n' c')).run Eebg.prog w = .ok (.bool a.isNone) w := fun w a n c n' c' => Lib.run_eql_slice_nil w _ _ a n c n' c' Eebg.underlying23
  go_enter Eebg.func7, Eebg.ntmps7
  go_wp2
  go_ret
  exact ⟨_, _, rfl, New_zero _ _ _ _, Below.refl _ _⟩

/-- The clone of whatever slice came in. -/
theorem cloneU16_any (ao : Option Addr) (n cap : Nat) (f : Nat → Int) (w : World) (hn : n ≤ 65536) (h0 : ao = none → n = 0 ∧ cap = 0) (hs : Slc w ao n (fun j => .int .u16 (f j))) :
    Calls Eebg.prog 7 #[.slice ao n cap] w fun e w' => ∃ ao' cap', e = .returned (.slice ao' n cap') ∧ New w w' ao' n (fun j => .int .u16 (f j)) ∧ Below w.heap.size w w' := by
  cases ao with
  | some a => exact cloneU16_some a n cap f w hn hs
  | none =>
    obtain ⟨rfl, rfl⟩ := h0 rfl
    exact cloneU16_none w _

set_option maxHeartbeats 400000 in
theorem cloneU8_some (a : Addr) (n cap : Nat) (f : Nat → Int) (w : World) (hn : n ≤ 65536) (hs : Slc w (some a) n (fun j => .int .u8 (f j))) :
    Calls Eebg.prog 8 #[.slice (some a) n cap] w fun e w' => ∃ ao' cap', e = .returned (.slice ao' n cap') ∧ New w w' ao' n (fun j => .int .u8 (f j)) ∧ Below w.heap.size w w' := by
  obtain ⟨i0, hi, hz0, hz1, hz2⟩ := info_parts Eebg.info5
  have qnil : ∀ (w : World) (a : Option Addr) (n c n' c' : Nat), (binOp .eql 24 (.slice a n c) (.slice none n' c')).run Eebg.prog w = .ok (.bool a.isNone) w := fun w a n c n' c' => Lib.run_eql_slice_nil w _ _ a n c n' c' Eebg.underlying24
  go_enter Eebg.func8, Eebg.ntmps8
  go_wp2_with (first | (at_make; refine wpList_make_full _ rfl _ _ 24 rfl w.heap.size 5 i0 (.int .u8 0) 1 Eebg.underlying24 hi hz0 hz1 _ _ _ _ n rfl rfl (by omega) (by omega) (by rw [hz2]; omega) (by unfold maxLen; omega) (Nat.le_refl _) ?_; intro w1 hown1 hgrow1))
  have hb1 : Below w.heap.size w w1 := (Below.refl _ w).grown hgrow1 (Nat.le_refl _) (by simp)
  have hl1 := hown1.1
  rw [Nat.mul_one] at hl1 hown1
  clear hgrow1 qnil
  go_loopw [4] (fun i wr => ∃ (k : Nat) (xs : List Value), k ≤ n ∧ i = .int .i64 k ∧ wr.ownsRow w.heap.size 5 1 (.slice (some ⟨w.heap.size, 0, none⟩) n n) n xs ∧ xs.length = n ∧ (∀ j, j < k → xs[j]? = some (.int .u8 (f j))) ∧ Below w.heap.size w wr)
    (fun i _ => n - (intOf i).toNat)
  case atStart => exact ⟨0, _, Nat.zero_le _, rfl, hown1, hl1, fun j hj => absurd hj (Nat.not_lt_zero _), hb1⟩
  case round =>
    obtain ⟨k, xs, hk, rfl, hown, hl, hx, hbr⟩ := hrel
    clear hown1 hl1 hb1
    by_cases hlt : k < n
    · obtain ⟨b, off, ea, hbl, hc⟩ := hs (by omega)
      obtain rfl := Option.some.inj ea
      have hck : wr.cell? ⟨b, off + k, none⟩ = some (.int .u8 (f k)) := (hbr.cell (p := ⟨b, off + k, none⟩) hbl).trans (hc k hlt)
      have hst := (hown.stored k (.int .u8 (f k))).1
      have hfz := hown.frozenAt k
      have hcl : wr.cell? ⟨w.heap.size, k, none⟩ = xs[k]? := hown.cellAt k (by omega)
      have hxk : xs[k]? = some xs[k] := List.getElem?_eq_getElem (by omega)
      rw [hxk] at hcl
      have hstep := cl_step (f := fun j => .int .u8 (f j)) hl hlt hx
      have hb2 : Below w.heap.size w (wr.setCell ⟨w.heap.size, k, none⟩ (.int .u8 (f k))) := hbr.setCell (p := ⟨w.heap.size, k, none⟩) (Nat.le_refl _) _
      clear hc hs hxk
      go_wp2
      go_roundw
      case rel => exact ⟨k + 1, xs.set k (.int .u8 (f k)), by omega, by go_num, hst, by rw [List.length_set]; exact hl, hstep, hb2⟩
      case measure => simp [intOf]; omega
    · have hfin : New w wr (some ⟨w.heap.size, 0, none⟩) n (fun j => .int .u8 (f j)) := by
        intro hpos
        have hcc : ∀ j, j < n → wr.cell? ⟨w.heap.size, j, none⟩ = some (.int .u8 (f j)) := fun j hj => (hown.cellAt j (by omega)).trans (hx j (by omega))
        exact ⟨w.heap.size, rfl, Nat.le_refl _, World.block_lt_of_cell? _ _ (hcc 0 hpos), hcc⟩
      clear hown hx hs
      go_wp2
      go_ret
      exact ⟨_, _, rfl, hfin, hbr⟩

theorem cloneU8_none (w : World) (f : Nat → Value) :
    Calls Eebg.prog 8 #[.slice none 0 0] w fun e w' => ∃ ao' cap', e = .returned (.slice ao' 0 cap') ∧ New w w' ao' 0 f ∧ Below w.heap.size w w' := by
  have qnil : ∀ (w : World) (a : Option Addr) (n c n' c' : Nat), (binOp .eql 24 (.slice a n c) (.slice none n' c')).run Eebg.prog w = .ok (.bool a.isNone) w := fun w a n c n' c' => Lib.run_eql_slice_nil w _ _ a n c n' c' Eebg.underlying24
  go_enter Eebg.func8, Eebg.ntmps8
  go_wp2
  go_ret
  exact ⟨_, _, rfl, New_zero _ _ _ _, Below.refl _ _⟩

/-- The clone of whatever slice came in. -/
theorem cloneU8_any (ao : Option Addr) (n cap : Nat) (f : Nat → Int) (w : World) (hn : n ≤ 65536) (h0 : ao = none → n = 0 ∧ cap = 0) (hs : Slc w ao n (fun j => .int .u8 (f j))) :
    Calls Eebg.prog 8 #[.slice ao n cap] w fun e w' => ∃ ao' cap', e = .returned (.slice ao' n cap') ∧ New w w' ao' n (fun j => .int .u8 (f j)) ∧ Below w.heap.size w w' := by
  cases ao with
  | some a => exact cloneU8_some a n cap f w hn hs
  | none =>
    obtain ⟨rfl, rfl⟩ := h0 rfl
    exact cloneU8_none w _

end Go.Proofs.YoeebwFmt
