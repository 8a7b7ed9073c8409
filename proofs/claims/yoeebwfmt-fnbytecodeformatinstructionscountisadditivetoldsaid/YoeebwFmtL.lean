import Derived.Test.YoeebwFmtH
namespace Go.Proofs.YoeebwFmt
open Go.RowKit Go.Extern.Stop Go.Stop Go.Extern

/-- The bytes zs lie in block g from its head on. -/
def Byt (w : World) (g : Nat) (zs : List Int) : Prop := ∀ j x, zs[j]? = some x → w.cell? ⟨g, j, none⟩ = some (.int .u8 x)
theorem Byt.below {B : Nat} {w w' : World} {g : Nat} {zs : List Int} (h : Byt w g zs) (hb : Below B w w') (hB : w.heap.size ≤ B) : Byt w' g zs := fun j x hj => cell_below hb hB (h j x hj)
theorem Byt.news {w : World} {g : Nat} {zs : List Int} (h : Byt w g zs) : ∀ j u, (zs.map (Value.int .u8))[j]? = some u → w.cell? ((⟨g, 0, none⟩ : Addr).add j) = some u := by
  intro j u hj
  rw [List.getElem?_map, Option.map_eq_some_iff] at hj
  obtain ⟨x, hx, rfl⟩ := hj
  rw [Addr.add_lit, Nat.zero_add]
  exact h j x hx

/-- Three byte codes boxed one behind the other: six new blocks. -/
theorem box3_facts (w : World) (v1 v2 v3 : Value) (W : World) (hW : W = ((((((w.alloc (.cells #[v1, .int .i64 0, .int .i64 0, .bool false, .map none, .slice none 0 0] 38)).alloc (.cells #[.pointer none, .pointer (some ⟨w.heap.size, 0, none⟩), .slice none 0 0] 42)).alloc (.cells #[v2, .int .i64 0, .int .i64 0, .bool false, .map none, .slice none 0 0] 38)).alloc (.cells #[.pointer none, .pointer (some ⟨w.heap.size + 1 + 1, 0, none⟩), .slice none 0 0] 42)).alloc (.cells #[v3, .int .i64 0, .int .i64 0, .bool false, .map none, .slice none 0 0] 38)).alloc (.cells #[.pointer none, .pointer (some ⟨w.heap.size + 1 + 1 + 1 + 1, 0, none⟩), .slice none 0 0] 42))) :
    (W.cell? ⟨w.heap.size + 1, 1, none⟩ = some (.pointer (some ⟨w.heap.size, 0, none⟩)) ∧ W.cell? ⟨w.heap.size, 0, none⟩ = some v1) ∧
    (W.cell? ⟨w.heap.size + 1 + 1 + 1, 1, none⟩ = some (.pointer (some ⟨w.heap.size + 1 + 1, 0, none⟩)) ∧ W.cell? ⟨w.heap.size + 1 + 1, 0, none⟩ = some v2) ∧
    (W.cell? ⟨w.heap.size + 1 + 1 + 1 + 1 + 1, 1, none⟩ = some (.pointer (some ⟨w.heap.size + 1 + 1 + 1 + 1, 0, none⟩)) ∧ W.cell? ⟨w.heap.size + 1 + 1 + 1 + 1, 0, none⟩ = some v3) ∧ Below w.heap.size w W := by
  obtain ⟨W1, hW1⟩ : ∃ W1 : World, W1 = ((w.alloc (.cells #[v1, .int .i64 0, .int .i64 0, .bool false, .map none, .slice none 0 0] 38)).alloc (.cells #[.pointer none, .pointer (some ⟨w.heap.size, 0, none⟩), .slice none 0 0] 42)) := ⟨_, rfl⟩
  have n1 : W1.heap.size = w.heap.size + 1 + 1 := by rw [hW1, World.size_alloc, World.size_alloc]
  obtain ⟨p1, p2, p3⟩ := box_facts w v1
  rw [← hW1] at p1 p2 p3 hW
  obtain ⟨W2, hW2⟩ : ∃ W2 : World, W2 = (W1.alloc (.cells #[v2, .int .i64 0, .int .i64 0, .bool false, .map none, .slice none 0 0] 38)).alloc (.cells #[.pointer none, .pointer (some ⟨W1.heap.size, 0, none⟩), .slice none 0 0] 42) := ⟨_, rfl⟩
  have n2 : W2.heap.size = w.heap.size + 1 + 1 + 1 + 1 := by rw [hW2, World.size_alloc, World.size_alloc, n1]
  obtain ⟨q1, q2, q3⟩ := box_facts W1 v2
  rw [← hW2] at q1 q2 q3
  rw [n1] at hW2
  rw [← hW2] at hW
  obtain ⟨r1, r2, r3⟩ := box_facts W2 v3
  rw [n2, ← hW] at r1 r2
  have r4 : Below W2.heap.size W2 W := by rw [hW, ← n2]; exact r3
  rw [n1] at q1 q2
  exact ⟨⟨cell_below r4 (Nat.le_refl _) (cell_below q3 (Nat.le_refl _) p1), cell_below r4 (Nat.le_refl _) (cell_below q3 (Nat.le_refl _) p2)⟩, ⟨cell_below r4 (Nat.le_refl _) q1, cell_below r4 (Nat.le_refl _) q2⟩, ⟨r1, r2⟩, bseq (bseq p3 q3) r4⟩

/-- A byte code in memory, as the method wants it. -/
structure Code (w : World) (bb bf g cap : Nat) (ops : List (List Int)) : Prop where
  fits : ops.flatten.length ≤ cap
  ins : ∀ op ∈ ops, Ins op
  few : ops.length ≤ 200000
  bytes : Byt w g ops.flatten
  main : w.cell? ⟨bb, 1, none⟩ = some (.pointer (some ⟨bf, 0, none⟩))
  held : w.cell? ⟨bf, 0, none⟩ = some (.slice (some ⟨g, 0, none⟩) ops.flatten.length cap)
theorem Code.below {B : Nat} {w w' : World} {bb bf g cap : Nat} {ops : List (List Int)} (h : Code w bb bf g cap ops) (hb : Below B w w') (hB : w.heap.size ≤ B) : Code w' bb bf g cap ops :=
  ⟨h.fits, h.ins, h.few, h.bytes.below hb hB, cell_below hb hB h.main, cell_below hb hB h.held⟩
theorem Code.lines {w : World} {bb bf g cap : Nat} {ops : List (List Int)} (h : Code w bb bf g cap ops) {b0 o0 c0 b1 o1 c1 : Nat} {n0 n1 : ByteArray} (hT : Tab w b0 o0 c0 b1 o1 c1 n0 n1) {n : Nat} (hn : ops.length = n) :
    Calls Eebg.prog 11 #[.pointer (some ⟨bb, 0, none⟩)] w fun e w' => ∃ ao cap', e = .returned (.slice ao n cap') ∧ Below w.heap.size w w' := by
  subst hn
  exact method_any ops bb bf g cap b0 o0 c0 b1 o1 c1 n0 n1 w h.ins h.few h.fits h.bytes hT h.main h.held

theorem flat_two (xs ys : List (List Int)) : (xs ++ ys).flatten.length = xs.flatten.length + ys.flatten.length := by rw [List.flatten_append, List.length_append]
theorem own_two {w : World} {base g c L1 L2 : Nat} {xs ys : List (List Int)} (h1 : L1 = xs.flatten.length) (h2 : L2 = ys.flatten.length)
    (h : w.ownsRow base 5 1 (.slice (some ⟨g, 0, none⟩) (L1 + L2) c) (L1 + L2) (xs.flatten.map (Value.int .u8) ++ ys.flatten.map (Value.int .u8))) :
    w.ownsRow base 5 1 (.slice (some ⟨g, 0, none⟩) (xs ++ ys).flatten.length c) (xs ++ ys).flatten.length ((xs ++ ys).flatten.map (Value.int .u8)) := by
  rw [flat_two, List.flatten_append, List.map_append, ← h1, ← h2]
  exact h

set_option maxRecDepth 100000 in
set_option maxHeartbeats 800000 in
theorem law2_small (a0 a1 a2 a3 a4 a5 : Option Addr) (n0 n1 n2 n3 n4 n5 c0 c1 c2 c3 c4 c5 : Nat) (fc gc : Nat → Bool) (fi ff gi gf : Nat → Int) (b0 o0 d0 b1 o1 d1 : Nat) (m0 m1 : ByteArray) (w : World)
    (l0 : n0 ≤ 65536) (l1 : n1 ≤ 65536) (l2 : n2 ≤ 65536) (l3 : n3 ≤ 65536) (l4 : n4 ≤ 65536) (l5 : n5 ≤ 65536)
    (z0 : a0 = none → n0 = 0 ∧ c0 = 0) (z1 : a1 = none → n1 = 0 ∧ c1 = 0) (z2 : a2 = none → n2 = 0 ∧ c2 = 0) (z3 : a3 = none → n3 = 0 ∧ c3 = 0) (z4 : a4 = none → n4 = 0 ∧ c4 = 0) (z5 : a5 = none → n5 = 0 ∧ c5 = 0)
    (s0 : Slc w a0 n0 (fun j => .bool (fc j))) (s1 : Slc w a1 n1 (fun j => .int .u16 (fi j))) (s2 : Slc w a2 n2 (fun j => .int .u8 (ff j))) (s3 : Slc w a3 n3 (fun j => .bool (gc j))) (s4 : Slc w a4 n4 (fun j => .int .u16 (gi j))) (s5 : Slc w a5 n5 (fun j => .int .u8 (gf j))) (hT : Tab w b0 o0 d0 b1 o1 d1 m0 m1) :
    Calls Eebg.prog 4 #[.slice a0 n0 c0, .slice a1 n1 c1, .slice a2 n2 c2, .slice a3 n3 c3, .slice a4 n4 c4, .slice a5 n5 c5] w fun e w' => e = .returned (.bool true) ∧ Below w.heap.size w w' := by
  have S0 : Hid (Slc w a0 n0 (fun j => .bool (fc j))) := s0
  have S1 : Hid (Slc w a1 n1 (fun j => .int .u16 (fi j))) := s1
  have S2 : Hid (Slc w a2 n2 (fun j => .int .u8 (ff j))) := s2
  have S3 : Hid (Slc w a3 n3 (fun j => .bool (gc j))) := s3
  have S4 : Hid (Slc w a4 n4 (fun j => .int .u16 (gi j))) := s4
  have S5 : Hid (Slc w a5 n5 (fun j => .int .u8 (gf j))) := s5
  have Z0 : Hid (a0 = none → n0 = 0 ∧ c0 = 0) := z0
  have Z1 : Hid (a1 = none → n1 = 0 ∧ c1 = 0) := z1
  have Z2 : Hid (a2 = none → n2 = 0 ∧ c2 = 0) := z2
  have Z3 : Hid (a3 = none → n3 = 0 ∧ c3 = 0) := z3
  have Z4 : Hid (a4 = none → n4 = 0 ∧ c4 = 0) := z4
  have Z5 : Hid (a5 = none → n5 = 0 ∧ c5 = 0) := z5
  have HT : Hid (Tab w b0 o0 d0 b1 o1 d1 m0 m1) := hT
  clear s0 s1 s2 s3 s4 s5 z0 z1 z2 z3 z4 z5 hT
  go_enter Eebg.func4, Eebg.ntmps4
  go_wp2_with fail
  refine (bytes6_any a0 a1 a2 a3 a4 a5 n0 n1 n2 n3 n4 n5 c0 c1 c2 c3 c4 c5 _ (by omega) (by omega) (by omega) (by omega) (by omega) (by omega)).mono ?_
  rintro e w0 ⟨b, rfl, rfl⟩
  cases b
  · go_wp2
    go_ret
    exact ⟨rfl, Below.refl _ _⟩
  · go_wp2_with fail
    refine (cloneBool_any a0 n0 c0 fc _ l0 Z0.out S0.out).mono ?_
    rintro e w1 ⟨q0, k0, rfl, new, hb1⟩
    have R0 : Hid (Slc w1 q0 n0 (fun j => .bool (fc j))) := new.slc
    have R1 : Hid (Slc w1 a1 n1 (fun j => .int .u16 (fi j))) := S1.out.below hb1 (Nat.le_refl _)
    have R2 : Hid (Slc w1 a2 n2 (fun j => .int .u8 (ff j))) := S2.out.below hb1 (Nat.le_refl _)
    have R3 : Hid (Slc w1 a3 n3 (fun j => .bool (gc j))) := S3.out.below hb1 (Nat.le_refl _)
    have R4 : Hid (Slc w1 a4 n4 (fun j => .int .u16 (gi j))) := S4.out.below hb1 (Nat.le_refl _)
    have R5 : Hid (Slc w1 a5 n5 (fun j => .int .u8 (gf j))) := S5.out.below hb1 (Nat.le_refl _)
    have RT : Hid (Tab w1 b0 o0 d0 b1 o1 d1 m0 m1) := HT.out.below hb1 (Nat.le_refl _)
    clear new S0 S1 S2 S3 S4 S5 HT
    have S0 := R0
    have S1 := R1
    have S2 := R2
    have S3 := R3
    have S4 := R4
    have S5 := R5
    have HT := RT
    clear R0 R1 R2 R3 R4 R5 RT
    go_wp2_with fail
    refine (cloneU16_any a1 n1 c1 fi _ l1 Z1.out S1.out).mono ?_
    rintro e w2 ⟨q1, k1, rfl, new, hb2⟩
    have R0 : Hid (Slc w2 q0 n0 (fun j => .bool (fc j))) := S0.out.below hb2 (Nat.le_refl _)
    have R1 : Hid (Slc w2 q1 n1 (fun j => .int .u16 (fi j))) := new.slc
    have R2 : Hid (Slc w2 a2 n2 (fun j => .int .u8 (ff j))) := S2.out.below hb2 (Nat.le_refl _)
    have R3 : Hid (Slc w2 a3 n3 (fun j => .bool (gc j))) := S3.out.below hb2 (Nat.le_refl _)
    have R4 : Hid (Slc w2 a4 n4 (fun j => .int .u16 (gi j))) := S4.out.below hb2 (Nat.le_refl _)
    have R5 : Hid (Slc w2 a5 n5 (fun j => .int .u8 (gf j))) := S5.out.below hb2 (Nat.le_refl _)
    have RT : Hid (Tab w2 b0 o0 d0 b1 o1 d1 m0 m1) := HT.out.below hb2 (Nat.le_refl _)
    clear new S0 S1 S2 S3 S4 S5 HT
    have S0 := R0
    have S1 := R1
    have S2 := R2
    have S3 := R3
    have S4 := R4
    have S5 := R5
    have HT := RT
    clear R0 R1 R2 R3 R4 R5 RT
    go_wp2_with fail
    refine (cloneU8_any a2 n2 c2 ff _ l2 Z2.out S2.out).mono ?_
    rintro e w3 ⟨q2, k2, rfl, new, hb3⟩
    have R0 : Hid (Slc w3 q0 n0 (fun j => .bool (fc j))) := S0.out.below hb3 (Nat.le_refl _)
    have R1 : Hid (Slc w3 q1 n1 (fun j => .int .u16 (fi j))) := S1.out.below hb3 (Nat.le_refl _)
    have R2 : Hid (Slc w3 q2 n2 (fun j => .int .u8 (ff j))) := new.slc
    have R3 : Hid (Slc w3 a3 n3 (fun j => .bool (gc j))) := S3.out.below hb3 (Nat.le_refl _)
    have R4 : Hid (Slc w3 a4 n4 (fun j => .int .u16 (gi j))) := S4.out.below hb3 (Nat.le_refl _)
    have R5 : Hid (Slc w3 a5 n5 (fun j => .int .u8 (gf j))) := S5.out.below hb3 (Nat.le_refl _)
    have RT : Hid (Tab w3 b0 o0 d0 b1 o1 d1 m0 m1) := HT.out.below hb3 (Nat.le_refl _)
    clear new S0 S1 S2 S3 S4 S5 HT
    have S0 := R0
    have S1 := R1
    have S2 := R2
    have S3 := R3
    have S4 := R4
    have S5 := R5
    have HT := RT
    clear R0 R1 R2 R3 R4 R5 RT
    go_wp2_with fail
    refine (cloneBool_any a3 n3 c3 gc _ l3 Z3.out S3.out).mono ?_
    rintro e w4 ⟨q3, k3, rfl, new, hb4⟩
    have R0 : Hid (Slc w4 q0 n0 (fun j => .bool (fc j))) := S0.out.below hb4 (Nat.le_refl _)
    have R1 : Hid (Slc w4 q1 n1 (fun j => .int .u16 (fi j))) := S1.out.below hb4 (Nat.le_refl _)
    have R2 : Hid (Slc w4 q2 n2 (fun j => .int .u8 (ff j))) := S2.out.below hb4 (Nat.le_refl _)
    have R3 : Hid (Slc w4 q3 n3 (fun j => .bool (gc j))) := new.slc
    have R4 : Hid (Slc w4 a4 n4 (fun j => .int .u16 (gi j))) := S4.out.below hb4 (Nat.le_refl _)
    have R5 : Hid (Slc w4 a5 n5 (fun j => .int .u8 (gf j))) := S5.out.below hb4 (Nat.le_refl _)
    have RT : Hid (Tab w4 b0 o0 d0 b1 o1 d1 m0 m1) := HT.out.below hb4 (Nat.le_refl _)
    clear new S0 S1 S2 S3 S4 S5 HT
    have S0 := R0
    have S1 := R1
    have S2 := R2
    have S3 := R3
    have S4 := R4
    have S5 := R5
    have HT := RT
    clear R0 R1 R2 R3 R4 R5 RT
    go_wp2_with fail
    refine (cloneU16_any a4 n4 c4 gi _ l4 Z4.out S4.out).mono ?_
    rintro e w5 ⟨q4, k4, rfl, new, hb5⟩
    have R0 : Hid (Slc w5 q0 n0 (fun j => .bool (fc j))) := S0.out.below hb5 (Nat.le_refl _)
    have R1 : Hid (Slc w5 q1 n1 (fun j => .int .u16 (fi j))) := S1.out.below hb5 (Nat.le_refl _)
    have R2 : Hid (Slc w5 q2 n2 (fun j => .int .u8 (ff j))) := S2.out.below hb5 (Nat.le_refl _)
    have R3 : Hid (Slc w5 q3 n3 (fun j => .bool (gc j))) := S3.out.below hb5 (Nat.le_refl _)
    have R4 : Hid (Slc w5 q4 n4 (fun j => .int .u16 (gi j))) := new.slc
    have R5 : Hid (Slc w5 a5 n5 (fun j => .int .u8 (gf j))) := S5.out.below hb5 (Nat.le_refl _)
    have RT : Hid (Tab w5 b0 o0 d0 b1 o1 d1 m0 m1) := HT.out.below hb5 (Nat.le_refl _)
    clear new S0 S1 S2 S3 S4 S5 HT
    have S0 := R0
    have S1 := R1
    have S2 := R2
    have S3 := R3
    have S4 := R4
    have S5 := R5
    have HT := RT
    clear R0 R1 R2 R3 R4 R5 RT
    go_wp2_with fail
    refine (cloneU8_any a5 n5 c5 gf _ l5 Z5.out S5.out).mono ?_
    rintro e w6 ⟨q5, k5, rfl, new, hb6⟩
    have R0 : Hid (Slc w6 q0 n0 (fun j => .bool (fc j))) := S0.out.below hb6 (Nat.le_refl _)
    have R1 : Hid (Slc w6 q1 n1 (fun j => .int .u16 (fi j))) := S1.out.below hb6 (Nat.le_refl _)
    have R2 : Hid (Slc w6 q2 n2 (fun j => .int .u8 (ff j))) := S2.out.below hb6 (Nat.le_refl _)
    have R3 : Hid (Slc w6 q3 n3 (fun j => .bool (gc j))) := S3.out.below hb6 (Nat.le_refl _)
    have R4 : Hid (Slc w6 q4 n4 (fun j => .int .u16 (gi j))) := S4.out.below hb6 (Nat.le_refl _)
    have R5 : Hid (Slc w6 q5 n5 (fun j => .int .u8 (gf j))) := new.slc
    have RT : Hid (Tab w6 b0 o0 d0 b1 o1 d1 m0 m1) := HT.out.below hb6 (Nat.le_refl _)
    clear new S0 S1 S2 S3 S4 S5 HT
    have S0 := R0
    have S1 := R1
    have S2 := R2
    have S3 := R3
    have S4 := R4
    have S5 := R5
    have HT := RT
    clear R0 R1 R2 R3 R4 R5 RT
    go_wp2_with fail
    refine (min3_any _ _ _ _).mono ?_
    rintro e w7 ⟨rfl, rfl⟩
    obtain ⟨k, hk, y0, y1, y2⟩ := m3_nat n0 n1 n2
    rw [hk]
    clear hk
    go_wp2_with fail
    refine (insts_any q0 q1 q2 n0 n1 n2 k0 k1 k2 k fc fi ff _ (by omega) y0 y1 y2 S0.out S1.out S2.out).mono ?_
    rintro e w8 ⟨ops1, cap1, hk1, hops1, rfl, hown1, hb8⟩
    have S3' : Hid (Slc w8 q3 n3 (fun j => .bool (gc j))) := S3.out.below hb8 (Nat.le_refl _)
    have S4' : Hid (Slc w8 q4 n4 (fun j => .int .u16 (gi j))) := S4.out.below hb8 (Nat.le_refl _)
    have S5' : Hid (Slc w8 q5 n5 (fun j => .int .u8 (gf j))) := S5.out.below hb8 (Nat.le_refl _)
    have HT8 : Hid (Tab w8 b0 o0 d0 b1 o1 d1 m0 m1) := HT.out.below hb8 (Nat.le_refl _)
    obtain ⟨g1, hg1⟩ : ∃ g1, g1 = w7.heap.size := ⟨_, rfl⟩
    rw [← hg1] at hown1 ⊢
    have HB8 : Hid (Byt w8 g1 ops1.flatten) := (own_bytes hown1).2
    have hcap1 := (own_bytes hown1).1
    have HO1 : Hid (∀ op ∈ ops1, Ins op) := hops1
    have HK1 : Hid (ops1.length = k) := hk1
    have hfl1 := flat_len ops1 hops1
    obtain ⟨L1, hL1⟩ : ∃ L1, L1 = ops1.flatten.length := ⟨_, rfl⟩
    rw [← hL1] at hcap1 hfl1 ⊢
    rw [hk1] at hfl1
    have HL1 : Hid (L1 = ops1.flatten.length) := hL1
    clear hown1 hops1 hk1 hL1 hg1 S0 S1 S2 S3 S4 S5 HT
    go_wp2_with fail
    refine (min3_any _ _ _ _).mono ?_
    rintro e w9 ⟨rfl, rfl⟩
    obtain ⟨l, hl, y3, y4, y5⟩ := m3_nat n3 n4 n5
    rw [hl]
    clear hl
    go_wp2_with fail
    refine (insts_any q3 q4 q5 n3 n4 n5 k3 k4 k5 l gc gi gf _ (by omega) y3 y4 y5 S3'.out S4'.out S5'.out).mono ?_
    rintro e w10 ⟨ops2, cap2, hk2, hops2, rfl, hown2, hb10⟩
    have HT10 : Hid (Tab w10 b0 o0 d0 b1 o1 d1 m0 m1) := HT8.out.below hb10 (Nat.le_refl _)
    have HA10 : Hid (Byt w10 g1 ops1.flatten) := HB8.out.below hb10 (Nat.le_refl _)
    obtain ⟨g2, hg2⟩ : ∃ g2, g2 = w9.heap.size := ⟨_, rfl⟩
    rw [← hg2] at hown2 ⊢
    have HB10 : Hid (Byt w10 g2 ops2.flatten) := (own_bytes hown2).2
    have hcap2 := (own_bytes hown2).1
    have HO2 : Hid (∀ op ∈ ops2, Ins op) := hops2
    have HK2 : Hid (ops2.length = l) := hk2
    have hfl2 := flat_len ops2 hops2
    obtain ⟨L2, hL2⟩ : ∃ L2, L2 = ops2.flatten.length := ⟨_, rfl⟩
    rw [← hL2] at hcap2 hfl2 ⊢
    rw [hk2] at hfl2
    have HL2 : Hid (L2 = ops2.flatten.length) := hL2
    have hbA : Hid (Below w0.heap.size w0 w10) := bseq (bseq (bseq (bseq (bseq (bseq (bseq hb1 hb2) hb3) hb4) hb5) hb6) hb8) hb10
    clear hown2 hops2 hk2 hL2 hg2 S3' S4' S5' HT8 HB8 hb1 hb2 hb3 hb4 hb5 hb6 hb8 hb10
    obtain ⟨i0, hi, hz0, hz1, hz2⟩ := info_parts Eebg.info5
    have Hone1 : Hid (∀ u ∈ ops1.flatten.map (Value.int .u8), u.oneCell' = true) := ints_oneCell .u8 _
    have Hone2 : Hid (∀ u ∈ ops2.flatten.map (Value.int .u8), u.oneCell' = true) := ints_oneCell .u8 _
    have Hlen1 : Hid ((ops1.flatten.map (Value.int .u8)).length = L1 * 1) := by show _ = _; rw [List.length_map, Nat.mul_one]; exact HL1.out.symm
    have Hlen2 : Hid ((ops2.flatten.map (Value.int .u8)).length = L2 * 1) := by show _ = _; rw [List.length_map, Nat.mul_one]; exact HL2.out.symm
    go_wp2_with (first
      | (at_make; refine wpList_make_own _ rfl _ _ 24 rfl w10.heap.size 5 i0 (.int .u8 0) 1 Eebg.underlying24 hi hz0 hz1 _ _ _ (L1 + L2) rfl rfl (by omega) (by rw [hz2]; omega) (by unfold maxLen; omega) (Nat.le_refl _) ?_; intro w11 hown11 hgrow11; have hb11 : Hid (Below w10.heap.size w10 w11) := (Below.refl _ w10).grown hgrow11 (Nat.le_refl _) (by simp); have HN1 : Hid (∀ j u, (ops1.flatten.map (Value.int .u8))[j]? = some u → w11.cell? ((⟨g1, 0, none⟩ : Addr).add j) = some u) := (HA10.out.below hb11.out (Nat.le_refl _)).news; clear hgrow11)
      | (at_builtin; refine wpList_append_fits _ rfl (.tmp 95) (.tmp 96) 24 rfl w10.heap.size 5 i0 1 Eebg.underlying24 hi hz1 w10.heap.size 0 (L1 + L2) [] rfl hown11 ⟨g1, 0, none⟩ L1 cap1 (ops1.flatten.map (Value.int .u8)) rfl Hlen1.out HN1.out Hone1.out (by omega) ?_; intro w12 hown12 hgrow12; simp only [Nat.zero_add, List.nil_append] at hown12; have hb12 : Hid (Below w10.heap.size w10 w12) := hb11.out.grown hgrow12 hb11.out.size (by simp); have HN2 : Hid (∀ j u, (ops2.flatten.map (Value.int .u8))[j]? = some u → w12.cell? ((⟨g2, 0, none⟩ : Addr).add j) = some u) := (HB10.out.below hb12.out (Nat.le_refl _)).news; clear hgrow12 hown11 HN1)
      | (at_builtin; refine wpList_append_fits _ rfl (.tmp 98) (.tmp 99) 24 rfl w10.heap.size 5 i0 1 Eebg.underlying24 hi hz1 w10.heap.size L1 (L1 + L2) (ops1.flatten.map (Value.int .u8)) rfl hown12 ⟨g2, 0, none⟩ L2 cap2 (ops2.flatten.map (Value.int .u8)) rfl Hlen2.out HN2.out Hone2.out (by omega) ?_; intro w13 hown13 hgrow13; have hb13 : Hid (Below w10.heap.size w10 w13) := hb12.out.grown hgrow13 hb12.out.size (by simp); clear hgrow13 hown12 HN2))
    obtain ⟨W, hW⟩ : ∃ W : World, W = ((((((w13.alloc (.cells #[.slice (some ⟨g1, 0, none⟩) L1 cap1, .int .i64 0, .int .i64 0, .bool false, .map none, .slice none 0 0] 38)).alloc (.cells #[.pointer none, .pointer (some ⟨w13.heap.size, 0, none⟩), .slice none 0 0] 42)).alloc (.cells #[.slice (some ⟨g2, 0, none⟩) L2 cap2, .int .i64 0, .int .i64 0, .bool false, .map none, .slice none 0 0] 38)).alloc (.cells #[.pointer none, .pointer (some ⟨w13.heap.size + 1 + 1, 0, none⟩), .slice none 0 0] 42)).alloc (.cells #[.slice (some ⟨w10.heap.size, 0, none⟩) (L1 + L2) (L1 + L2), .int .i64 0, .int .i64 0, .bool false, .map none, .slice none 0 0] 38)).alloc (.cells #[.pointer none, .pointer (some ⟨w13.heap.size + 1 + 1 + 1 + 1, 0, none⟩), .slice none 0 0] 42)) := ⟨_, rfl⟩
    obtain ⟨⟨x1, x2⟩, ⟨x3, x4⟩, ⟨x5, x6⟩, hbW⟩ := box3_facts w13 _ _ _ W hW
    rw [← hW]
    clear hW
    have own3 := own_two HL1.out HL2.out hown13
    have hbM := hb13.out.trans (hbW.mono hb13.out.size)
    have HK3 : Hid ((ops1 ++ ops2).length = k + l) := by show _ = _; rw [List.length_append, HK1.out, HK2.out]
    have C3 : Hid (Code W (w13.heap.size + 1 + 1 + 1 + 1 + 1) (w13.heap.size + 1 + 1 + 1 + 1) w10.heap.size (L1 + L2) (ops1 ++ ops2)) :=
      ⟨(own_bytes own3).1, fun op ho => (List.mem_append.1 ho).elim (HO1.out op) (HO2.out op), by rw [HK3.out]; omega, Byt.below (own_bytes own3).2 hbW (Nat.le_refl _), x5, by rw [flat_two, ← HL1.out, ← HL2.out]; exact x6⟩
    have C1 : Hid (Code W (w13.heap.size + 1) w13.heap.size g1 cap1 ops1) := ⟨by rw [← HL1.out]; exact hcap1, HO1.out, by rw [HK1.out]; omega, HA10.out.below hbM (Nat.le_refl _), x1, by rw [← HL1.out]; exact x2⟩
    have C2 : Hid (Code W (w13.heap.size + 1 + 1 + 1) (w13.heap.size + 1 + 1) g2 cap2 ops2) := ⟨by rw [← HL2.out]; exact hcap2, HO2.out, by rw [HK2.out]; omega, HB10.out.below hbM (Nat.le_refl _), x3, by rw [← HL2.out]; exact x4⟩
    have HTW : Hid (Tab W b0 o0 d0 b1 o1 d1 m0 m1) := HT10.out.below hbM (Nat.le_refl _)
    have hbB : Hid (Below w0.heap.size w0 W) := hbA.out.trans (hbM.mono hbA.out.size)
    clear x1 x2 x3 x4 x5 x6 own3 hown13 hbM hbW
    refine (C3.out.lines HTW.out HK3.out).mono ?_
    rintro e u1 ⟨ao1, ca1, rfl, hu1⟩
    have D1 : Hid (Code u1 (w13.heap.size + 1) w13.heap.size g1 cap1 ops1) := C1.out.below hu1 (Nat.le_refl _)
    have D2 : Hid (Code u1 (w13.heap.size + 1 + 1 + 1) (w13.heap.size + 1 + 1) g2 cap2 ops2) := C2.out.below hu1 (Nat.le_refl _)
    have HT1 : Hid (Tab u1 b0 o0 d0 b1 o1 d1 m0 m1) := HTW.out.below hu1 (Nat.le_refl _)
    clear C1 C2 C3 HTW
    go_wp2_with fail
    refine (D1.out.lines HT1.out HK1.out).mono ?_
    rintro e u2 ⟨ao2, ca2, rfl, hu2⟩
    have E2 : Hid (Code u2 (w13.heap.size + 1 + 1 + 1) (w13.heap.size + 1 + 1) g2 cap2 ops2) := D2.out.below hu2 (Nat.le_refl _)
    have HT2 : Hid (Tab u2 b0 o0 d0 b1 o1 d1 m0 m1) := HT1.out.below hu2 (Nat.le_refl _)
    clear D1 D2 HT1
    go_wp2_with fail
    refine (E2.out.lines HT2.out HK2.out).mono ?_
    rintro e u3 ⟨ao3, ca3, rfl, hu3⟩
    have hbC : Hid (Below w0.heap.size w0 u3) := bseq (bseq (bseq hbB.out hu1) hu2) hu3
    clear E2 HT2 hu1 hu2 hu3
    go_wp2
    go_ret
    exact ⟨by simp, hbC.out⟩

set_option maxRecDepth 100000 in
set_option maxHeartbeats 800000 in
/-- A slice that is too long: the law answers true at once. -/
theorem law2_big (a0 a1 a2 a3 a4 a5 : Option Addr) (n0 n1 n2 n3 n4 n5 c0 c1 c2 c3 c4 c5 : Nat) (w : World) (l0 : n0 ≤ 9223372036854775807) (l1 : n1 ≤ 9223372036854775807) (l2 : n2 ≤ 9223372036854775807) (l3 : n3 ≤ 9223372036854775807) (l4 : n4 ≤ 9223372036854775807) (l5 : n5 ≤ 9223372036854775807)
    (h : 65536 < n0 ∨ 65536 < n1 ∨ 65536 < n2 ∨ 65536 < n3 ∨ 65536 < n4 ∨ 65536 < n5) :
    Calls Eebg.prog 4 #[.slice a0 n0 c0, .slice a1 n1 c1, .slice a2 n2 c2, .slice a3 n3 c3, .slice a4 n4 c4, .slice a5 n5 c5] w fun e w' => e = .returned (.bool true) ∧ Below w.heap.size w w' := by
  have H := hide h
  clear h
  go_enter Eebg.func4, Eebg.ntmps4
  go_wp2_with fail
  refine (bytes6_any a0 a1 a2 a3 a4 a5 n0 n1 n2 n3 n4 n5 c0 c1 c2 c3 c4 c5 _ l0 l1 l2 l3 l4 l5).mono ?_
  rintro e w0 ⟨b, rfl, rfl⟩
  cases b
  · go_wp2
    go_ret
    exact ⟨rfl, Below.refl _ _⟩
  · by_cases h0 : 65536 < n0
    · go_wp2
      go_ret
      exact ⟨rfl, Below.refl _ _⟩
    · by_cases h1 : 65536 < n1
      · go_wp2
        go_ret
        exact ⟨rfl, Below.refl _ _⟩
      · by_cases h2 : 65536 < n2
        · go_wp2
          go_ret
          exact ⟨rfl, Below.refl _ _⟩
        · by_cases h3 : 65536 < n3
          · go_wp2
            go_ret
            exact ⟨rfl, Below.refl _ _⟩
          · by_cases h4 : 65536 < n4
            · go_wp2
              go_ret
              exact ⟨rfl, Below.refl _ _⟩
            · have h5 : 65536 < n5 := by have := H.out; omega
              go_wp2
              go_ret
              exact ⟨rfl, Below.refl _ _⟩

theorem law2_any (a0 a1 a2 a3 a4 a5 : Option Addr) (n0 n1 n2 n3 n4 n5 c0 c1 c2 c3 c4 c5 : Nat) (fc gc : Nat → Bool) (fi ff gi gf : Nat → Int) (b0 o0 d0 b1 o1 d1 : Nat) (m0 m1 : ByteArray) (w : World)
    (l0 : n0 ≤ 9223372036854775807) (l1 : n1 ≤ 9223372036854775807) (l2 : n2 ≤ 9223372036854775807) (l3 : n3 ≤ 9223372036854775807) (l4 : n4 ≤ 9223372036854775807) (l5 : n5 ≤ 9223372036854775807)
    (z0 : a0 = none → n0 = 0 ∧ c0 = 0) (z1 : a1 = none → n1 = 0 ∧ c1 = 0) (z2 : a2 = none → n2 = 0 ∧ c2 = 0) (z3 : a3 = none → n3 = 0 ∧ c3 = 0) (z4 : a4 = none → n4 = 0 ∧ c4 = 0) (z5 : a5 = none → n5 = 0 ∧ c5 = 0)
    (s0 : Slc w a0 n0 (fun j => .bool (fc j))) (s1 : Slc w a1 n1 (fun j => .int .u16 (fi j))) (s2 : Slc w a2 n2 (fun j => .int .u8 (ff j))) (s3 : Slc w a3 n3 (fun j => .bool (gc j))) (s4 : Slc w a4 n4 (fun j => .int .u16 (gi j))) (s5 : Slc w a5 n5 (fun j => .int .u8 (gf j))) (hT : Tab w b0 o0 d0 b1 o1 d1 m0 m1) :
    Calls Eebg.prog 4 #[.slice a0 n0 c0, .slice a1 n1 c1, .slice a2 n2 c2, .slice a3 n3 c3, .slice a4 n4 c4, .slice a5 n5 c5] w fun e w' => e = .returned (.bool true) ∧ Below w.heap.size w w' := by
  by_cases h : 65536 < n0 ∨ 65536 < n1 ∨ 65536 < n2 ∨ 65536 < n3 ∨ 65536 < n4 ∨ 65536 < n5
  · exact law2_big a0 a1 a2 a3 a4 a5 n0 n1 n2 n3 n4 n5 c0 c1 c2 c3 c4 c5 w l0 l1 l2 l3 l4 l5 h
  · exact law2_small a0 a1 a2 a3 a4 a5 n0 n1 n2 n3 n4 n5 c0 c1 c2 c3 c4 c5 fc gc fi ff gi gf b0 o0 d0 b1 o1 d1 m0 m1 w (by omega) (by omega) (by omega) (by omega) (by omega) (by omega) z0 z1 z2 z3 z4 z5 s0 s1 s2 s3 s4 s5 hT

end Go.Proofs.YoeebwFmt
