import Derived.Test.YoeebwFmtG
namespace Go.Proofs.YoeebwFmt
open Go.RowKit Go.Extern.Stop Go.Stop Go.Extern

set_option maxHeartbeats 400000 in
theorem method_any (ops : List (List Int)) (bb bf : Nat) (g cap : Nat) (b0 o0 c0 b1 o1 c1 : Nat) (n0 n1 : ByteArray) (w : World) (hops : ∀ op ∈ ops, Ins op) (hlen : ops.length ≤ 200000) (hcap : ops.flatten.length ≤ cap)
    (hcells : ∀ j x, ops.flatten[j]? = some x → w.cell? ⟨g, j, none⟩ = some (.int .u8 x)) (hT : Tab w b0 o0 c0 b1 o1 c1 n0 n1)
    (hb : w.cell? ⟨bb, 1, none⟩ = some (.pointer (some ⟨bf, 0, none⟩))) (hf : w.cell? ⟨bf, 0, none⟩ = some (.slice (some ⟨g, 0, none⟩) ops.flatten.length cap)) :
    Calls Eebg.prog 11 #[.pointer (some ⟨bb, 0, none⟩)] w fun e w' => ∃ ao cap', e = .returned (.slice ao ops.length cap') ∧ Below w.heap.size w w' := by
  have HT : Hid (Tab w b0 o0 c0 b1 o1 c1 n0 n1) := hT
  have HC : Hid (∀ j x, ops.flatten[j]? = some x → w.cell? ⟨g, j, none⟩ = some (.int .u8 x)) := hcells
  have HO : Hid (∀ op ∈ ops, Ins op) := hops
  clear hT hcells hops
  obtain ⟨L, hL⟩ : ∃ L, L = ops.flatten.length := ⟨_, rfl⟩
  rw [← hL] at hf hcap
  have HL : Hid (L = ops.flatten.length) := hL
  clear hL
  go_enter Eebg.func11, Eebg.ntmps11
  go_wp2_with fail
  rw [HL.out] at hcap ⊢
  refine (fmtInsts_any ops g cap b0 o0 c0 b1 o1 c1 n0 n1 _ HO.out hlen hcap HC.out HT.out).mono ?_
  rintro e w1 ⟨ao, cap', rfl, hb1⟩
  go_wp2
  go_ret
  exact ⟨ao, cap', rfl, hb1⟩

theorem m3_nat (a b c : Nat) : ∃ k : Nat, m3 (a : Int) (b : Int) (c : Int) = (k : Int) ∧ k ≤ a ∧ k ≤ b ∧ k ≤ c := by
  unfold m3
  by_cases h1 : (b : Int) < a
  · by_cases h2 : (c : Int) < b
    · exact ⟨c, by rw [if_pos h1, if_pos h2], by omega, by omega, Nat.le_refl _⟩
    · exact ⟨b, by rw [if_pos h1, if_neg h2], by omega, Nat.le_refl _, by omega⟩
  · by_cases h2 : (c : Int) < a
    · exact ⟨c, by rw [if_neg h1, if_pos h2], by omega, by omega, Nat.le_refl _⟩
    · exact ⟨a, by rw [if_neg h1, if_neg h2], Nat.le_refl _, by omega, by omega⟩

/-- The cells of a row of bytes that is owned. -/
theorem own_bytes {w : World} {base g cap : Nat} {zs : List Int} (h : w.ownsRow base 5 1 (.slice (some ⟨g, 0, none⟩) zs.length cap) zs.length (zs.map (Value.int .u8))) :
    zs.length ≤ cap ∧ ∀ j x, zs[j]? = some x → w.cell? ⟨g, j, none⟩ = some (.int .u8 x) := by
  refine ⟨?_, fun j x hj => ?_⟩
  · rcases h.2 with ⟨h', _⟩ | ⟨g', cap', cur, h', _, _, hn, _⟩
    · cases h'
    · simp only [Value.slice.injEq] at h'
      omega
  · have hlt := (List.getElem?_eq_some_iff.1 hj).1
    rw [h.cellAt j (by omega), List.getElem?_map, hj]
    rfl

/-- '&Bytecode{MainFunction: &CompiledFunction{Instructions: v}}': two new blocks. -/
theorem box_facts (w : World) (v : Value) :
    ((w.alloc (.cells #[v, .int .i64 0, .int .i64 0, .bool false, .map none, .slice none 0 0] 38)).alloc (.cells #[.pointer none, .pointer (some ⟨w.heap.size, 0, none⟩), .slice none 0 0] 42)).cell? ⟨w.heap.size + 1, 1, none⟩ = some (.pointer (some ⟨w.heap.size, 0, none⟩)) ∧
    ((w.alloc (.cells #[v, .int .i64 0, .int .i64 0, .bool false, .map none, .slice none 0 0] 38)).alloc (.cells #[.pointer none, .pointer (some ⟨w.heap.size, 0, none⟩), .slice none 0 0] 42)).cell? ⟨w.heap.size, 0, none⟩ = some v ∧
    Below w.heap.size w ((w.alloc (.cells #[v, .int .i64 0, .int .i64 0, .bool false, .map none, .slice none 0 0] 38)).alloc (.cells #[.pointer none, .pointer (some ⟨w.heap.size, 0, none⟩), .slice none 0 0] 42)) := by
  refine ⟨by simp, by simp, ((Below.refl _ _).alloc (Nat.le_refl _) _).alloc (by simp) _⟩

theorem hide {p : Prop} (h : p) : Hid p := h
theorem bseq {a b c : World} (h : Below a.heap.size a b) (k : Below b.heap.size b c) : Below a.heap.size a c := h.trans (k.mono h.size)

set_option maxHeartbeats 400000 in
theorem law1_small (a0 a1 a2 : Option Addr) (n0 n1 n2 c0 c1 c2 : Nat) (fc : Nat → Bool) (fi ff : Nat → Int) (b0 o0 d0 b1 o1 d1 : Nat) (m0 m1 : ByteArray) (w : World)
    (l0 : n0 ≤ 65536) (l1 : n1 ≤ 65536) (l2 : n2 ≤ 65536) (z0 : a0 = none → n0 = 0 ∧ c0 = 0) (z1 : a1 = none → n1 = 0 ∧ c1 = 0) (z2 : a2 = none → n2 = 0 ∧ c2 = 0)
    (s0 : Slc w a0 n0 (fun j => .bool (fc j))) (s1 : Slc w a1 n1 (fun j => .int .u16 (fi j))) (s2 : Slc w a2 n2 (fun j => .int .u8 (ff j))) (hT : Tab w b0 o0 d0 b1 o1 d1 m0 m1) :
    Calls Eebg.prog 3 #[.slice a0 n0 c0, .slice a1 n1 c1, .slice a2 n2 c2] w fun e w' => e = .returned (.bool true) ∧ Below w.heap.size w w' := by
  have S0 : Hid (Slc w a0 n0 (fun j => .bool (fc j))) := s0
  have S1 : Hid (Slc w a1 n1 (fun j => .int .u16 (fi j))) := s1
  have S2 : Hid (Slc w a2 n2 (fun j => .int .u8 (ff j))) := s2
  have HT : Hid (Tab w b0 o0 d0 b1 o1 d1 m0 m1) := hT
  have Z0 : Hid (a0 = none → n0 = 0 ∧ c0 = 0) := z0
  have Z1 : Hid (a1 = none → n1 = 0 ∧ c1 = 0) := z1
  have Z2 : Hid (a2 = none → n2 = 0 ∧ c2 = 0) := z2
  clear s0 s1 s2 hT z0 z1 z2
  go_enter Eebg.func3, Eebg.ntmps3
  go_wp2_with fail
  refine (bytes3_any a0 a1 a2 n0 n1 n2 c0 c1 c2 _ (by omega) (by omega) (by omega)).mono ?_
  rintro e w0 ⟨b, rfl, rfl⟩
  cases b
  · go_wp2
    go_ret
    exact ⟨rfl, Below.refl _ _⟩
  · go_wp2_with fail
    refine (cloneBool_any a0 n0 c0 fc _ l0 Z0.out S0.out).mono ?_
    rintro e w1 ⟨a0', cc0, rfl, new0, hb1⟩
    have S0' : Hid (Slc w1 a0' n0 (fun j => .bool (fc j))) := new0.slc
    have S1' : Hid (Slc w1 a1 n1 (fun j => .int .u16 (fi j))) := S1.out.below hb1 (Nat.le_refl _)
    have S2' : Hid (Slc w1 a2 n2 (fun j => .int .u8 (ff j))) := S2.out.below hb1 (Nat.le_refl _)
    have HT1 : Hid (Tab w1 b0 o0 d0 b1 o1 d1 m0 m1) := HT.out.below hb1 (Nat.le_refl _)
    clear new0 S0 S1 S2 HT
    go_wp2_with fail
    refine (cloneU16_any a1 n1 c1 fi _ l1 Z1.out S1'.out).mono ?_
    rintro e w2 ⟨a1', cc1, rfl, new1, hb2⟩
    have S0 : Hid (Slc w2 a0' n0 (fun j => .bool (fc j))) := S0'.out.below hb2 (Nat.le_refl _)
    have S1 : Hid (Slc w2 a1' n1 (fun j => .int .u16 (fi j))) := new1.slc
    have S2 : Hid (Slc w2 a2 n2 (fun j => .int .u8 (ff j))) := S2'.out.below hb2 (Nat.le_refl _)
    have HT2 : Hid (Tab w2 b0 o0 d0 b1 o1 d1 m0 m1) := HT1.out.below hb2 (Nat.le_refl _)
    clear new1 S0' S1' S2' HT1
    go_wp2_with fail
    refine (cloneU8_any a2 n2 c2 ff _ l2 Z2.out S2.out).mono ?_
    rintro e w3 ⟨a2', cc2, rfl, new2, hb3⟩
    have S0' : Hid (Slc w3 a0' n0 (fun j => .bool (fc j))) := S0.out.below hb3 (Nat.le_refl _)
    have S1' : Hid (Slc w3 a1' n1 (fun j => .int .u16 (fi j))) := S1.out.below hb3 (Nat.le_refl _)
    have S2' : Hid (Slc w3 a2' n2 (fun j => .int .u8 (ff j))) := new2.slc
    have HT3 : Hid (Tab w3 b0 o0 d0 b1 o1 d1 m0 m1) := HT2.out.below hb3 (Nat.le_refl _)
    clear new2 S0 S1 S2 HT2
    go_wp2_with fail
    refine (min3_any _ _ _ _).mono ?_
    rintro e w4 ⟨rfl, rfl⟩
    obtain ⟨k, hk, k0, k1, k2⟩ := m3_nat n0 n1 n2
    rw [hk]
    clear hk
    go_wp2_with fail
    refine (insts_any a0' a1' a2' n0 n1 n2 cc0 cc1 cc2 k fc fi ff _ (by omega) k0 k1 k2 S0'.out S1'.out S2'.out).mono ?_
    rintro e w5 ⟨ops, cap, hk, hops, rfl, hown, hb5⟩
    have HT5 : Hid (Tab w5 b0 o0 d0 b1 o1 d1 m0 m1) := HT3.out.below hb5 (Nat.le_refl _)
    have HB : Hid (∀ j x, ops.flatten[j]? = some x → w5.cell? ⟨w4.heap.size, j, none⟩ = some (.int .u8 x)) := (own_bytes hown).2
    have hcap := (own_bytes hown).1
    have HO : Hid (∀ op ∈ ops, Ins op) := hops
    have HK : Hid (ops.length = k) := hk
    obtain ⟨L, hL⟩ : ∃ L, L = ops.flatten.length := ⟨_, rfl⟩
    rw [← hL] at hcap ⊢
    have HL : Hid (L = ops.flatten.length) := hL
    clear hown hops hk hL S0' S1' S2' HT3
    obtain ⟨x1, x2, hb6⟩ := box_facts w5 (.slice (some ⟨w4.heap.size, 0, none⟩) L cap)
    have X1 := hide x1
    have X2 := hide x2
    clear x1 x2
    go_wp2_with fail
    refine (method_any ops (w5.heap.size + 1) w5.heap.size w4.heap.size cap b0 o0 d0 b1 o1 d1 m0 m1 _ HO.out ?_ ?_ ?_ ?_ ?_ ?_).mono ?_
    · rw [HK.out]; omega
    · rw [← HL.out]; exact hcap
    · exact fun j x hj => cell_below hb6 (Nat.le_refl _) (HB.out j x hj)
    · exact HT5.out.below hb6 (Nat.le_refl _)
    · exact X1.out
    · rw [← HL.out]; exact X2.out
    · rintro e w7 ⟨ao, cap', rfl, hb7⟩
      rw [HK.out]
      go_wp2
      go_ret
      exact ⟨by simp, bseq (bseq (bseq (bseq (bseq hb1 hb2) hb3) hb5) hb6) hb7⟩

set_option maxHeartbeats 400000 in
/-- A slice that is too long: the law answers true at once. -/
theorem law1_big (a0 a1 a2 : Option Addr) (n0 n1 n2 c0 c1 c2 : Nat) (w : World) (l0 : n0 ≤ 9223372036854775807) (l1 : n1 ≤ 9223372036854775807) (l2 : n2 ≤ 9223372036854775807)
    (h : 65536 < n0 ∨ 65536 < n1 ∨ 65536 < n2) :
    Calls Eebg.prog 3 #[.slice a0 n0 c0, .slice a1 n1 c1, .slice a2 n2 c2] w fun e w' => e = .returned (.bool true) ∧ Below w.heap.size w w' := by
  have H := hide h
  clear h
  go_enter Eebg.func3, Eebg.ntmps3
  go_wp2_with fail
  refine (bytes3_any a0 a1 a2 n0 n1 n2 c0 c1 c2 _ l0 l1 l2).mono ?_
  rintro e w0 ⟨b, rfl, rfl⟩
  cases b
  · go_wp2
    go_ret
    exact ⟨rfl, Below.refl _ _⟩
  · by_cases h0 : 65536 < n0
    · go_wp2
      go_ret
      exact ⟨rfl, Below.refl _ _⟩
    · by_cases h1 : 65536 < n1
      · go_wp2
        go_ret
        exact ⟨rfl, Below.refl _ _⟩
      · have h2 : 65536 < n2 := by
          rcases H.out with h | h | h
          · exact absurd h h0
          · exact absurd h h1
          · exact h
        go_wp2
        go_ret
        exact ⟨rfl, Below.refl _ _⟩

theorem law1_any (a0 a1 a2 : Option Addr) (n0 n1 n2 c0 c1 c2 : Nat) (fc : Nat → Bool) (fi ff : Nat → Int) (b0 o0 d0 b1 o1 d1 : Nat) (m0 m1 : ByteArray) (w : World)
    (l0 : n0 ≤ 9223372036854775807) (l1 : n1 ≤ 9223372036854775807) (l2 : n2 ≤ 9223372036854775807) (z0 : a0 = none → n0 = 0 ∧ c0 = 0) (z1 : a1 = none → n1 = 0 ∧ c1 = 0) (z2 : a2 = none → n2 = 0 ∧ c2 = 0)
    (s0 : Slc w a0 n0 (fun j => .bool (fc j))) (s1 : Slc w a1 n1 (fun j => .int .u16 (fi j))) (s2 : Slc w a2 n2 (fun j => .int .u8 (ff j))) (hT : Tab w b0 o0 d0 b1 o1 d1 m0 m1) :
    Calls Eebg.prog 3 #[.slice a0 n0 c0, .slice a1 n1 c1, .slice a2 n2 c2] w fun e w' => e = .returned (.bool true) ∧ Below w.heap.size w w' := by
  by_cases h : 65536 < n0 ∨ 65536 < n1 ∨ 65536 < n2
  · exact law1_big a0 a1 a2 n0 n1 n2 c0 c1 c2 w l0 l1 l2 h
  · exact law1_small a0 a1 a2 n0 n1 n2 c0 c1 c2 fc fi ff b0 o0 d0 b1 o1 d1 m0 m1 w (by omega) (by omega) (by omega) z0 z1 z2 s0 s1 s2 hT

end Go.Proofs.YoeebwFmt
