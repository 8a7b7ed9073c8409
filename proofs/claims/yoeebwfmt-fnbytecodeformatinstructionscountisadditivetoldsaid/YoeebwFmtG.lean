import Derived.Test.YoeebwFmtE
namespace Go.Proofs.YoeebwFmt
open Go.RowKit Go.Extern.Stop Go.Stop Go.Extern

/-- What the walk reads of the two tables: OpcodeOperands[0] is {2}, OpcodeOperands[35] is {2, 1}; the two names are strings. -/
structure Tab (w : World) (b0 o0 c0 b1 o1 c1 : Nat) (n0 n1 : ByteArray) : Prop where
  t0 : w.cell? ⟨0, 0, none⟩ = some (.slice (some ⟨b0, o0, none⟩) 1 c0)
  t1 : w.cell? ⟨0, 35, none⟩ = some (.slice (some ⟨b1, o1, none⟩) 2 c1)
  u0 : w.cell? ⟨b0, o0, none⟩ = some (.int .i64 2)
  v0 : w.cell? ⟨b1, o1, none⟩ = some (.int .i64 2)
  v1 : w.cell? ⟨b1, o1 + 1, none⟩ = some (.int .i64 1)
  m0 : w.cell? ⟨1, 0, none⟩ = some (.string n0)
  m1 : w.cell? ⟨1, 35, none⟩ = some (.string n1)

theorem cell_below {B : Nat} {w w' : World} (hb : Below B w w') (hB : w.heap.size ≤ B) {a : Addr} {v : Value} (h : w.cell? a = some v) : w'.cell? a = some v :=
  (hb.cell (p := a) (Nat.lt_of_lt_of_le (World.block_lt_of_cell? w a h) hB)).trans h

theorem Tab.below {B : Nat} {w w' : World} {b0 o0 c0 b1 o1 c1 : Nat} {n0 n1 : ByteArray} (h : Tab w b0 o0 c0 b1 o1 c1 n0 n1) (hb : Below B w w') (hB : w.heap.size ≤ B) : Tab w' b0 o0 c0 b1 o1 c1 n0 n1 :=
  ⟨cell_below hb hB h.t0, cell_below hb hB h.t1, cell_below hb hB h.u0, cell_below hb hB h.v0, cell_below hb hB h.v1, cell_below hb hB h.m0, cell_below hb hB h.m1⟩

/-- The bytes of the instruction that stands next. -/
theorem next_bytes {done rest : List (List Int)} {op : List Int} {j : Nat} {x : Int} (h : op[j]? = some x) : ((done ++ op :: rest).flatten)[done.flatten.length + j]? = some x := by
  have e : (done ++ op :: rest).flatten = done.flatten ++ (op ++ rest.flatten) := by simp
  rw [e, List.getElem?_append_right (by omega), Nat.add_sub_cancel_left, List.getElem?_append_left (List.getElem?_eq_some_iff.1 h).1]
  exact h
theorem next_len (done rest : List (List Int)) (op : List Int) : done.flatten.length + op.length ≤ ((done ++ op :: rest).flatten).length := by
  have e : (done ++ op :: rest).flatten = done.flatten ++ (op ++ rest.flatten) := by simp
  rw [e]
  simp only [List.length_append]
  omega

theorem news2 (w : World) (A : Obj) (x : Value) (t : TypeId) : ∀ j u, [x][j]? = some u → ((w.alloc A).alloc (.cells #[x] t)).drew.drew.cell? ((⟨w.heap.size + 1, 0, none⟩ : Addr).add j) = some u := by
  intro j u hj
  have h9 := cell_one_new (w.alloc A) x t j u hj
  rw [World.size_alloc] at h9
  exact h9

theorem own_below {B : Nat} {w w' : World} (hb : Below B w w') (hB : w.heap.size ≤ B) {base : Nat} {e : TypeId} {size : Nat} {v : Value} {n : Nat} {xs : List Value} (h : w.ownsRow base e size v n xs) : w'.ownsRow base e size v n xs := by
  refine ⟨h.1, ?_⟩
  rcases h.2 with hn | ⟨g, cap, cur, hv, hg, hh, r⟩
  · exact Or.inl hn
  · have hlt : g < w.heap.size := (Array.getElem?_eq_some_iff.1 hh).1
    exact Or.inr ⟨g, cap, cur, hv, hg, (hb.block g (by omega)).trans hh, r⟩

set_option maxRecDepth 100000 in
set_option maxHeartbeats 800000 in
theorem fmtInsts_any (ops : List (List Int)) (g cap : Nat) (b0 o0 c0 b1 o1 c1 : Nat) (n0 n1 : ByteArray) (w : World) (hops : ∀ op ∈ ops, Ins op) (hlen : ops.length ≤ 200000) (hcap : ops.flatten.length ≤ cap)
    (hcells : ∀ j x, ops.flatten[j]? = some x → w.cell? ⟨g, j, none⟩ = some (.int .u8 x)) (hT : Tab w b0 o0 c0 b1 o1 c1 n0 n1) :
    Calls Eebg.prog 13 #[.slice (some ⟨g, 0, none⟩) ops.flatten.length cap, .int .i64 0] w fun e w' => ∃ ao cap', e = .returned (.slice ao ops.length cap') ∧ Below w.heap.size w w' := by
  obtain ⟨i0, hi, hz0, hz1, hz2⟩ := info_parts Eebg.info9
  obtain ⟨L, hL⟩ : ∃ L, L = ops.flatten.length := ⟨_, rfl⟩
  obtain ⟨N, hN⟩ : ∃ N, N = ops.length := ⟨_, rfl⟩
  have hfl := flat_len ops hops
  rw [← hL, ← hN] at hfl ⊢
  rw [← hL] at hcap
  rw [← hN] at hlen
  have HL : Hid (L = ops.flatten.length) := hL
  have HN : Hid (N = ops.length) := hN
  have HT : Hid (Tab w b0 o0 c0 b1 o1 c1 n0 n1) := hT
  have HC : Hid (∀ j x, ops.flatten[j]? = some x → w.cell? ⟨g, j, none⟩ = some (.int .u8 x)) := hcells
  have HO : Hid (∀ op ∈ ops, Ins op) := hops
  clear hL hN hT hcells hops
  go_enter Eebg.func13, Eebg.ntmps13
  go_wp2
  go_loopw [5, 6, 7, 8, 9] (fun v i _ _ _ wr => ∃ (done rest : List (List Int)) (ao : Option Addr) (cv : Nat) (xs : List Value), Hid (ops = done ++ rest) ∧ i = .int .i64 done.flatten.length ∧ v = .slice ao done.length cv ∧
      wr.ownsRow w.heap.size 9 1 (.slice ao done.length cv) done.length xs ∧ Below w.heap.size w wr)
    (fun _ i _ _ _ _ => L - (intOf i).toNat)
  case atStart => exact ⟨[], ops, none, 0, [], rfl, rfl, rfl, World.ownsRow_nil _ _ _ _, Below.refl _ _⟩
  case round =>
    obtain ⟨done, rest, ao, cv, xs, Hs, rfl, rfl, hown, hbr⟩ := hrel
    cases rest with
    | nil =>
      have e1 : ops = done := by have := Hs.out; simpa using this
      have e2 : L = done.flatten.length := by rw [HL.out, e1]
      have e3 : N = done.length := by rw [HN.out, e1]
      have HE : Hid (N = done.length) := e3
      obtain ⟨P, hP⟩ : ∃ P, P = done.flatten.length := ⟨_, rfl⟩
      rw [← hP] at e2 ⊢
      have hge : L ≤ P := by omega
      clear e1 e2 e3 hP
      go_wp2
      go_ret
      exact ⟨ao, cv, congrArg (fun n => Ending.returned (.slice ao n cv)) HE.out.symm, hbr⟩
    | cons op rest =>
      have hin : Ins op := HO.out op (by rw [Hs.out]; simp)
      have hnl := next_len done rest op
      rw [← Hs.out, ← HL.out] at hnl
      have hdn : done.length < N := by rw [HN.out, Hs.out]; simp
      obtain ⟨P, hP⟩ : ∃ P, P = done.flatten.length := ⟨_, rfl⟩
      rw [← hP] at hnl ⊢
      have HP : Hid (P = done.flatten.length) := hP
      clear hP
      have hsz := hbr.size
      have tb := HT.out.below hbr (Nat.le_refl _)
      rcases hin with ⟨a, b, rfl⟩ | ⟨a, b, c, rfl⟩
      · have hbyte : ∀ j x, ([0, a, b] : List Int)[j]? = some x → ops.flatten[P + j]? = some x := by
          intro j x hj
          rw [Hs.out, HP.out]
          exact next_bytes hj
        have hx : ∀ j x, ([0, a, b] : List Int)[j]? = some x → wr.cell? ⟨g, P + j, none⟩ = some (.int .u8 x) := by
          intro j x hj
          exact cell_below hbr (Nat.le_refl _) (HC.out _ _ (hbyte j x hj))
        have x0 : wr.cell? ⟨g, P, none⟩ = some (.int .u8 0) := hx 0 0 rfl
        have x1 : wr.cell? ⟨g, P + 1, none⟩ = some (.int .u8 a) := hx 1 a rfl
        have x2 : wr.cell? ⟨g, P + 1 + 1, none⟩ = some (.int .u8 b) := hx 2 b rfl
        simp only [List.length_cons, List.length_nil] at hnl
        have t0 := tb.t0
        have u0 := tb.u0
        have m0 := tb.m0
        have hPL : (P : Int) < (L : Int) := by omega
        have hne : ¬ cap = P + 1 := by omega
        clear hx tb
        go_wp2_with fail
        refine (read1 b0 o0 c0 g (P + 1) (L - (P + 1)) (cap - (P + 1)) a b _ u0 x1 x2 (by omega)).mono ?_
        rintro e w1 ⟨g1, cap1, z, rfl, hown1, hb1⟩
        have y0 := cell_below hb1 (Nat.le_refl _) x0
        have k0 := cell_below hb1 (Nat.le_refl _) m0
        have z0 : w1.cell? ⟨g1, 0, none⟩ = some (.int .i64 z) := hown1.cellAt 0 (by decide)
        have hownw := own_below hb1 (Nat.le_refl _) hown
        have lg := World.block_lt_of_cell? _ _ y0
        have l1 := World.block_lt_of_cell? _ _ k0
        have lg1 := World.block_lt_of_cell? _ _ z0
        have ng : (Value.slice ao done.length cv).ownBlock ≠ some g := fun h => by have := (hown.lt g h).1; have := World.block_lt_of_cell? w _ (HC.out _ _ (hbyte 0 0 rfl)); simp at this; omega
        have n1' : (Value.slice ao done.length cv).ownBlock ≠ some 1 := fun h => by have := (hown.lt 1 h).1; have := World.block_lt_of_cell? w _ HT.out.m0; simp at this; omega
        have ng1 : (Value.slice ao done.length cv).ownBlock ≠ some g1 := fun h => by have := (hown.lt g1 h).2; have := (hown1.lt g1 rfl).1; omega
        have hbw : Below w.heap.size w w1 := hbr.trans (hb1.mono hsz)
        have hsz1 := hbw.size
        clear t0 u0 m0 x0 x1 x2 hown1 hb1 hown hbr hbyte
        have hw0 : IntKind.i64.wrap (P : Int) = (P : Int) := IntWalk.i64_in _ (by omega)
        go_wp2_with fail
        go_region_held3 (fun w' => w'.cell? ⟨g, P, none⟩ = some (.int .u8 0) ∧ w'.cell? ⟨1, 0, none⟩ = some (.string n0) ∧ w'.cell? ⟨g1, 0, none⟩ = some (.int .i64 z)) (first | go_keep | exact ⟨(hgrow.cell_far _ (by simp; try omega) ng.symm).trans (by go_keep), (hgrow.cell_far _ (by simp; try omega) n1'.symm).trans (by go_keep), (hgrow.cell_far _ (by simp; try omega) ng1.symm).trans (by go_keep)⟩)
          ((first | (refine step_spr _ (by rfl) _ _ _ (by rfl) _ _ (by rfl) (by rfl) (sprA w1.heap.size P z n0 _ (by go_keep) (by go_keep) (by go_keep)) ?_; intro t) | (refine step_append_lies _ (by rfl) _ _ _ (by rfl) w.heap.size 9 i0 (.string ByteArray.empty) 1 16 Eebg.underlying43 hi hz0 hz1 hz2 rfl (by omega) (.slice ao done.length cv) done.length xs (by rfl) ((hownw.alloc _).alloc _).drew.drew ⟨w1.heap.size + 1, 0, none⟩ 1 1 [.string t] (by rfl) (by rfl) (news2 w1 _ _ _) (by simp [Value.oneCell']) (by omega) (by unfold maxLen; omega) (by omega) (by simp; omega) (w1.heap.size + 1 + 1) (by simp) ?_; intro gg capg w2 hown2 hgrow hat hlt)))
        have hb2 : Below w.heap.size w w2 := (((hbw.alloc hsz1 _).alloc (by simp; omega) _).drew.drew).grown hgrow (by simp; omega) (fun k hk => (hownw.lt k hk).1)
        have Hs' : Hid (ops = (done ++ [[0, a, b]]) ++ rest) := by rw [List.append_assoc]; exact Hs
        have Hf : Hid ((done ++ [[0, a, b]]).flatten.length = P + 3) := by show _ = _; rw [HP.out]; simp
        have Hd : Hid ((done ++ [[0, a, b]]).length = done.length + 1) := by show _ = _; simp
        clear hgrow hat hlt ng n1' ng1 y0 k0 z0 hownw hbw
        go_wp2
        go_roundw
        case rel => exact ⟨done ++ [[0, a, b]], rest, some ⟨gg, 0, none⟩, capg, xs ++ [.string t], Hs', by rw [Hf.out]; go_num, by rw [Hd.out], by rw [Hd.out]; exact hown2, hb2⟩
        case measure => simp [intOf]; omega
      · have hbyte : ∀ j x, ([35, a, b, c] : List Int)[j]? = some x → ops.flatten[P + j]? = some x := by
          intro j x hj
          rw [Hs.out, HP.out]
          exact next_bytes hj
        have hx : ∀ j x, ([35, a, b, c] : List Int)[j]? = some x → wr.cell? ⟨g, P + j, none⟩ = some (.int .u8 x) := by
          intro j x hj
          exact cell_below hbr (Nat.le_refl _) (HC.out _ _ (hbyte j x hj))
        have x0 : wr.cell? ⟨g, P, none⟩ = some (.int .u8 35) := hx 0 35 rfl
        have x1 : wr.cell? ⟨g, P + 1, none⟩ = some (.int .u8 a) := hx 1 a rfl
        have x2 : wr.cell? ⟨g, P + 1 + 1, none⟩ = some (.int .u8 b) := hx 2 b rfl
        have x3 : wr.cell? ⟨g, P + 1 + 2, none⟩ = some (.int .u8 c) := hx 3 c rfl
        simp only [List.length_cons, List.length_nil] at hnl
        have t0 := tb.t1
        have u0 := tb.v0
        have u1 := tb.v1
        have m0 := tb.m1
        have hPL : (P : Int) < (L : Int) := by omega
        have hne : ¬ cap = P + 1 := by omega
        clear hx tb
        go_wp2_with fail
        refine (read2 b1 o1 c1 g (P + 1) (L - (P + 1)) (cap - (P + 1)) a b c _ u0 u1 x1 x2 x3 (by omega)).mono ?_
        rintro e w1 ⟨g1, cap1, z, y, rfl, hown1, hb1⟩
        have y0 := cell_below hb1 (Nat.le_refl _) x0
        have k0 := cell_below hb1 (Nat.le_refl _) m0
        have z0 : w1.cell? ⟨g1, 0, none⟩ = some (.int .i64 z) := hown1.cellAt 0 (by decide)
        have z1 : w1.cell? ⟨g1, 1, none⟩ = some (.int .i64 y) := hown1.cellAt 1 (by decide)
        have hownw := own_below hb1 (Nat.le_refl _) hown
        have lg := World.block_lt_of_cell? _ _ y0
        have l1 := World.block_lt_of_cell? _ _ k0
        have lg1 := World.block_lt_of_cell? _ _ z0
        have ng : (Value.slice ao done.length cv).ownBlock ≠ some g := fun h => by have := (hown.lt g h).1; have := World.block_lt_of_cell? w _ (HC.out _ _ (hbyte 0 35 rfl)); simp at this; omega
        have n1' : (Value.slice ao done.length cv).ownBlock ≠ some 1 := fun h => by have := (hown.lt 1 h).1; have := World.block_lt_of_cell? w _ HT.out.m1; simp at this; omega
        have ng1 : (Value.slice ao done.length cv).ownBlock ≠ some g1 := fun h => by have := (hown.lt g1 h).2; have := (hown1.lt g1 rfl).1; omega
        have hbw : Below w.heap.size w w1 := hbr.trans (hb1.mono hsz)
        have hsz1 := hbw.size
        clear t0 u0 u1 m0 x0 x1 x2 x3 hown1 hb1 hown hbr hbyte
        have hw0 : IntKind.i64.wrap (P : Int) = (P : Int) := IntWalk.i64_in _ (by omega)
        go_wp2_with fail
        go_region_held3 (fun w' => w'.cell? ⟨g, P, none⟩ = some (.int .u8 35) ∧ w'.cell? ⟨1, 35, none⟩ = some (.string n1) ∧ w'.cell? ⟨g1, 0, none⟩ = some (.int .i64 z) ∧ w'.cell? ⟨g1, 1, none⟩ = some (.int .i64 y)) (first | go_keep | exact ⟨(hgrow.cell_far _ (by simp; try omega) ng.symm).trans (by go_keep), (hgrow.cell_far _ (by simp; try omega) n1'.symm).trans (by go_keep), (hgrow.cell_far _ (by simp; try omega) ng1.symm).trans (by go_keep), (hgrow.cell_far _ (by simp; try omega) ng1.symm).trans (by go_keep)⟩)
          ((first | (refine step_spr _ (by rfl) _ _ _ (by rfl) _ _ (by rfl) (by rfl) (sprB w1.heap.size P z y n1 _ (by go_keep) (by go_keep) (by go_keep) (by go_keep)) ?_; intro t) | (refine step_append_lies _ (by rfl) _ _ _ (by rfl) w.heap.size 9 i0 (.string ByteArray.empty) 1 16 Eebg.underlying43 hi hz0 hz1 hz2 rfl (by omega) (.slice ao done.length cv) done.length xs (by rfl) ((hownw.alloc _).alloc _).drew.drew ⟨w1.heap.size + 1, 0, none⟩ 1 1 [.string t] (by rfl) (by rfl) (news2 w1 _ _ _) (by simp [Value.oneCell']) (by omega) (by unfold maxLen; omega) (by omega) (by simp; omega) (w1.heap.size + 1 + 1) (by simp) ?_; intro gg capg w2 hown2 hgrow hat hlt)))
        have hb2 : Below w.heap.size w w2 := (((hbw.alloc hsz1 _).alloc (by simp; omega) _).drew.drew).grown hgrow (by simp; omega) (fun k hk => (hownw.lt k hk).1)
        have Hs' : Hid (ops = (done ++ [[35, a, b, c]]) ++ rest) := by rw [List.append_assoc]; exact Hs
        have Hf : Hid ((done ++ [[35, a, b, c]]).flatten.length = P + 4) := by show _ = _; rw [HP.out]; simp
        have Hd : Hid ((done ++ [[35, a, b, c]]).length = done.length + 1) := by show _ = _; simp
        clear hgrow hat hlt ng n1' ng1 y0 k0 z0 z1 hownw hbw
        go_wp2
        go_roundw
        case rel => exact ⟨done ++ [[35, a, b, c]], rest, some ⟨gg, 0, none⟩, capg, xs ++ [.string t], Hs', by rw [Hf.out]; go_num, by rw [Hd.out], by rw [Hd.out]; exact hown2, hb2⟩
        case measure => simp [intOf]; omega

end Go.Proofs.YoeebwFmt
