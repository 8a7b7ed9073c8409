import Derived.Test.YoeebwFmtB
import Derived.Deep.AppendLies
namespace Go.Proofs.YoeebwFmt
open Go.RowKit

/-- One instruction as zzInsts lays it: OpConstant and two bytes, or OpClosure and three. -/
def Ins (op : List Int) : Prop := (∃ a b : Int, op = [0, a, b]) ∨ ∃ a b c : Int, op = [35, a, b, c]
theorem Ins.len {op : List Int} (h : Ins op) : 3 ≤ op.length ∧ op.length ≤ 4 := by
  rcases h with ⟨a, b, rfl⟩ | ⟨a, b, c, rfl⟩ <;> simp
theorem flat_len (ops : List (List Int)) (h : ∀ op ∈ ops, Ins op) : ops.flatten.length ≤ 4 * ops.length := by
  induction ops with
  | nil => simp
  | cons x xs ih =>
    have h1 := (h x (by simp)).len
    have h2 := ih (fun op ho => h op (by simp [ho]))
    simp only [List.flatten_cons, List.length_append, List.length_cons]
    omega

theorem ins_snoc {ops : List (List Int)} {op : List Int} (h : ∀ o ∈ ops, Ins o) (ho : Ins op) : ∀ o ∈ ops ++ [op], Ins o := by
  intro o hm
  rcases List.mem_append.1 hm with h1 | h1
  · exact h o h1
  · rw [List.mem_singleton.1 h1]; exact ho
theorem own_snoc {w : World} {base g c m : Nat} {ops : List (List Int)} {op : List Int} (h : w.ownsRow base 5 1 (.slice (some ⟨g, 0, none⟩) (ops.flatten.length + m) c) (ops.flatten.length + m) (ops.flatten.map (Value.int .u8) ++ op.map (Value.int .u8)))
    (hm : op.length = m := by rfl) : w.ownsRow base 5 1 (.slice (some ⟨g, 0, none⟩) (ops ++ [op]).flatten.length c) (ops ++ [op]).flatten.length ((ops ++ [op]).flatten.map (Value.int .u8)) := by
  subst hm
  have e : (ops ++ [op]).flatten = ops.flatten ++ op := by simp
  rw [e, List.length_append, List.map_append]
  exact h

set_option maxHeartbeats 400000 in
theorem insts_any (a0 a1 a2 : Option Addr) (n0 n1 n2 c0 c1 c2 k : Nat) (fc : Nat → Bool) (fi ff : Nat → Int) (w : World) (hk : k ≤ 65536) (k0 : k ≤ n0) (k1 : k ≤ n1) (k2 : k ≤ n2)
    (s0 : Slc w a0 n0 (fun j => .bool (fc j))) (s1 : Slc w a1 n1 (fun j => .int .u16 (fi j))) (s2 : Slc w a2 n2 (fun j => .int .u8 (ff j))) :
    Calls Eebg.prog 10 #[.slice a0 n0 c0, .slice a1 n1 c1, .slice a2 n2 c2, .int .i64 k] w fun e w' => ∃ (ops : List (List Int)) (cap : Nat), ops.length = k ∧ (∀ op ∈ ops, Ins op) ∧
      e = .returned (.slice (some ⟨w.heap.size, 0, none⟩) ops.flatten.length cap) ∧
      w'.ownsRow w.heap.size 5 1 (.slice (some ⟨w.heap.size, 0, none⟩) ops.flatten.length cap) ops.flatten.length (ops.flatten.map (Value.int .u8)) ∧ Below w.heap.size w w' := by
  obtain ⟨i0, hi, hz0, hz1, hz2⟩ := info_parts Eebg.info5
  go_enter Eebg.func10, Eebg.ntmps10
  go_wp2_with (first | (at_make; refine wpList_make_own _ rfl _ _ 24 rfl w.heap.size 5 i0 (.int .u8 0) 1 Eebg.underlying24 hi hz0 hz1 _ _ _ (4 * k) rfl rfl (by omega) (by rw [hz2]; omega) (by unfold maxLen; omega) (Nat.le_refl _) ?_; intro w1 hown1 hgrow1))
  have hb1 : Below w.heap.size w w1 := (Below.refl _ w).grown hgrow1 (Nat.le_refl _) (by simp)
  clear hgrow1
  go_loopw [9, 10, 11] (fun v i _ wr => ∃ (j : Nat) (ops : List (List Int)), j ≤ k ∧ i = .int .i64 j ∧ ops.length = j ∧ (∀ op ∈ ops, Ins op) ∧
      v = .slice (some ⟨w.heap.size, 0, none⟩) ops.flatten.length (4 * k) ∧
      wr.ownsRow w.heap.size 5 1 (.slice (some ⟨w.heap.size, 0, none⟩) ops.flatten.length (4 * k)) ops.flatten.length (ops.flatten.map (Value.int .u8)) ∧ Below w.heap.size w wr)
    (fun _ i _ _ => k - (intOf i).toNat)
  case atStart => exact ⟨0, [], Nat.zero_le _, rfl, rfl, by simp, rfl, hown1, hb1⟩
  case round =>
    obtain ⟨j, ops, hj, rfl, hlen, hops, rfl, hown, hbr⟩ := hrel
    clear hown1 hb1
    have hfl := flat_len ops hops
    rw [hlen] at hfl
    by_cases hlt : j < k
    · obtain ⟨b0, o0, e0, l0, h0⟩ := s0 (by omega)
      obtain ⟨b1, o1, e1, l1, h1⟩ := s1 (by omega)
      obtain ⟨b2, o2, e2, l2, h2⟩ := s2 (by omega)
      subst e0 e1 e2
      have q0 : wr.cell? ⟨b0, o0 + j, none⟩ = some (.bool (fc j)) := (hbr.cell (p := ⟨b0, o0 + j, none⟩) l0).trans (h0 j (by omega))
      have q1 : wr.cell? ⟨b1, o1 + j, none⟩ = some (.int .u16 (fi j)) := (hbr.cell (p := ⟨b1, o1 + j, none⟩) l1).trans (h1 j (by omega))
      have q2 : wr.cell? ⟨b2, o2 + j, none⟩ = some (.int .u8 (ff j)) := (hbr.cell (p := ⟨b2, o2 + j, none⟩) l2).trans (h2 j (by omega))
      clear h0 h1 h2 s0 s1 s2
      have Hl : Hid (ops.length = j) := hlen
      clear hlen
      cases hcl : fc j
      · rw [hcl] at q0
        clear hcl
        have HN' : Hid (∀ (i : Nat) (u : Value), [Value.int .u8 0, .int .u8 (fi j / 256 % 256), .int .u8 (fi j % 256)][i]? = some u → (wr.alloc (.cells #[Value.int .u8 0, .int .u8 (fi j / 256 % 256), .int .u8 (fi j % 256)] 5)).cell? ((⟨wr.heap.size, 0, none⟩ : Addr).add i) = some u) :=
          World.news_of_block (cs := #[Value.int .u8 0, .int .u8 (fi j / 256 % 256), .int .u8 (fi j % 256)]) (heap_alloc_new wr (.cells #[Value.int .u8 0, .int .u8 (fi j / 256 % 256), .int .u8 (fi j % 256)] 5))
        go_wp2_with (at_builtin; refine wpList_append_fits _ rfl _ _ 24 rfl w.heap.size 5 i0 1 Eebg.underlying24 hi hz1 w.heap.size ops.flatten.length (4 * k) (ops.flatten.map (Value.int .u8)) rfl (hown.alloc _) ⟨wr.heap.size, 0, none⟩ 3 3 [.int .u8 0, .int .u8 (fi j / 256 % 256), .int .u8 (fi j % 256)] rfl rfl HN'.out (ints_oneCell .u8 [0, fi j / 256 % 256, fi j % 256]) (by omega) ?_; intro w2 hown2 hgrow2)
        go_roundw
        case rel => exact ⟨j + 1, ops ++ [[0, fi j / 256 % 256, fi j % 256]], by omega, by go_num, by simp [Hl.out], ins_snoc hops (Or.inl ⟨_, _, rfl⟩), by simp, own_snoc hown2, (hbr.alloc hbr.size _).grown hgrow2 (by simp; exact Nat.le_succ_of_le hbr.size) (by simp)⟩
        case measure => simp [intOf]; omega
      · rw [hcl] at q0
        clear hcl
        have HN' : Hid (∀ (i : Nat) (u : Value), [Value.int .u8 35, .int .u8 (fi j / 256 % 256), .int .u8 (fi j % 256), .int .u8 (ff j)][i]? = some u → (wr.alloc (.cells #[Value.int .u8 35, .int .u8 (fi j / 256 % 256), .int .u8 (fi j % 256), .int .u8 (ff j)] 5)).cell? ((⟨wr.heap.size, 0, none⟩ : Addr).add i) = some u) :=
          World.news_of_block (cs := #[Value.int .u8 35, .int .u8 (fi j / 256 % 256), .int .u8 (fi j % 256), .int .u8 (ff j)]) (heap_alloc_new wr (.cells #[Value.int .u8 35, .int .u8 (fi j / 256 % 256), .int .u8 (fi j % 256), .int .u8 (ff j)] 5))
        go_wp2_with (at_builtin; refine wpList_append_fits _ rfl _ _ 24 rfl w.heap.size 5 i0 1 Eebg.underlying24 hi hz1 w.heap.size ops.flatten.length (4 * k) (ops.flatten.map (Value.int .u8)) rfl (hown.alloc _) ⟨wr.heap.size, 0, none⟩ 4 4 [.int .u8 35, .int .u8 (fi j / 256 % 256), .int .u8 (fi j % 256), .int .u8 (ff j)] rfl rfl HN'.out (ints_oneCell .u8 [35, fi j / 256 % 256, fi j % 256, ff j]) (by omega) ?_; intro w2 hown2 hgrow2)
        go_roundw
        case rel => exact ⟨j + 1, ops ++ [[35, fi j / 256 % 256, fi j % 256, ff j]], by omega, by go_num, by simp [Hl.out], ins_snoc hops (Or.inr ⟨_, _, _, rfl⟩), by simp, own_snoc hown2, (hbr.alloc hbr.size _).grown hgrow2 (by simp; exact Nat.le_succ_of_le hbr.size) (by simp)⟩
        case measure => simp [intOf]; omega
    · have hjk : j = k := by omega
      clear s0 s1 s2
      have Hl : Hid (ops.length = k) := hlen.trans hjk
      clear hlen hjk
      go_wp2
      go_ret
      exact ⟨ops, 4 * k, Hl.out, hops, rfl, hown, hbr⟩

end Go.Proofs.YoeebwFmt
