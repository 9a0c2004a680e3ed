import Derived.Test.Qxb6601629aQuoteWalk
namespace Go.Proofs.Qxb6601629a
open Go.ChangeShapes Go.WideShapes Go.ChangeAt Go.RowKit
set_option linter.unusedVariables false

/-- A bool came back. -/
def IsB (e : Ending) : Prop := e = .returned (.bool true) ∨ e = .returned (.bool false)

theorem bytes23 (a0 a1 a2 : Option Addr) (l0 c0 l1 c1 l2 c2 : Nat) (w : World) (h0 : l0 ≤ maxLen) (h1 : l1 ≤ maxLen) (h2 : l2 ≤ maxLen) :
    Calls Try.prog 23 #[.slice a0 l0 c0, .slice a1 l1 c1, .slice a2 l2 c2] w fun e w' => IsB e ∧ w' = w := by
  unfold maxLen at h0 h1 h2
  by_cases k0 : l0 ≤ 1048576
  · by_cases k1 : l1 ≤ 1048576
    · by_cases k2 : l2 ≤ 1048576
      · by_cases s1 : l0 + l1 ≤ 1048576
        · by_cases s2 : l0 + l1 + l2 ≤ 1048576
          · go_enter Try.func23, Try.ntmps23
            go_wp2
            go_ret
            exact ⟨Or.inl rfl, rfl⟩
          · go_enter Try.func23, Try.ntmps23
            go_wp2
            go_ret
            exact ⟨Or.inr rfl, rfl⟩
        · go_enter Try.func23, Try.ntmps23
          go_wp2
          go_ret
          exact ⟨Or.inr rfl, rfl⟩
      · by_cases s1 : l0 + l1 ≤ 1048576
        · go_enter Try.func23, Try.ntmps23
          go_wp2
          go_ret
          exact ⟨Or.inr rfl, rfl⟩
        · go_enter Try.func23, Try.ntmps23
          go_wp2
          go_ret
          exact ⟨Or.inr rfl, rfl⟩
    · go_enter Try.func23, Try.ntmps23
      go_wp2
      go_ret
      exact ⟨Or.inr rfl, rfl⟩
  · go_enter Try.func23, Try.ntmps23
    go_wp2
    go_ret
    exact ⟨Or.inr rfl, rfl⟩

/-- What a clone's row is good for as a source: wherever nothing below has turned. -/
def Src (W : World) (a : Option Addr) (X : List Value) : Prop :=
  ∀ V, Below W.heap.size W V → 0 < X.length → ∃ ad, a = some ad ∧ ∀ j v, X[j]? = some v → V.cell? (ad.add j) = some v

theorem Src.mk {W : World} {a : Option Addr} {X : List Value} (h : (a = none ∧ X = []) ∨ ∃ g, a = some ⟨g, 0, none⟩ ∧ W.heap[g]? = some (.cells X.toArray 5 (0, 0))) : Src W a X := by
  intro V hb hX
  rcases h with ⟨_, rfl⟩ | ⟨g, rfl, h⟩
  · simp at hX
  · have hg : g < W.heap.size := (Array.getElem?_eq_some_iff.1 h).1
    refine ⟨_, rfl, fun j v hv => ?_⟩
    have e : (⟨g, 0, none⟩ : Addr).add j = ⟨g, j, none⟩ := by unfold Addr.add; split <;> simp_all
    rw [e]
    exact (hb.cell (p := ⟨g, j, none⟩) hg).trans (own_cell h hv)

/-- What a clone leaves, in a later world. -/
theorem clone_own {w w' V : World} {a : Option Addr} {l : Nat} {z : List Int} (h : (a = none ∧ l = 0 ∧ w' = w) ∨ (a = some ⟨w.heap.size, 0, none⟩ ∧ w'.heap[w.heap.size]? = some (.cells (z.map (Value.int .u8)).toArray 5 (0, 0)))) (hz : z.length = l) (hV : Below w'.heap.size w' V) :
    (a = none ∧ z = []) ∨ ∃ g, a = some ⟨g, 0, none⟩ ∧ V.heap[g]? = some (.cells (z.map (Value.int .u8)).toArray 5 (0, 0)) := by
  rcases h with ⟨h1, h2, _⟩ | ⟨h1, h2⟩
  · exact .inl ⟨h1, List.eq_nil_of_length_eq_zero (hz.trans h2)⟩
  · exact .inr ⟨_, h1, (hV.block _ (Array.getElem?_eq_some_iff.1 h2).1).trans h2⟩

theorem row_bytes {w : World} {a : Option Addr} {len cap : Nat} {zs : List Int} (h : IsRow .u8 w a len cap zs) : (∀ x ∈ zs.take len, 0 ≤ x ∧ x ≤ 255) ∧ (zs.take len).length = len ∧ len ≤ maxLen := by
  rcases h with ⟨_, h1, _, h2⟩ | ⟨x, h0, h1, h2, h3, h4, h5⟩
  · subst h2 h1; exact ⟨by simp, rfl, Nat.zero_le _⟩
  · refine ⟨fun n hn => ?_, by simp; omega, by omega⟩
    exact bounds_u8 (h5 n (List.mem_of_mem_take hn))

theorem ints_one (z : List Int) : ∀ v ∈ z.map (Value.int .u8), v.oneCell' = true := by
  intro v hv; simp only [List.mem_map] at hv; obtain ⟨a, _, rfl⟩ := hv; rfl

set_option maxHeartbeats 2000000 in
theorem pass_any (a0 : Option Addr) (l0 c0 : Nat) (z0 : List Int) (a1 : Option Addr) (l1 c1 : Nat) (z1 : List Int) (a2 : Option Addr) (l2 c2 : Nat) (z2 : List Int) (w : World)
    (r0 : IsRow .u8 w a0 l0 c0 z0) (r1 : IsRow .u8 w a1 l1 c1 z1) (r2 : IsRow .u8 w a2 l2 c2 z2) :
    Calls Try.prog 7 #[.slice a0 l0 c0, .slice a1 l1 c1, .slice a2 l2 c2] w fun e w' => e = .returned (.bool true) ∧ Below w.heap.size w w' := by
  obtain ⟨y0, n0, m0⟩ := row_bytes r0
  obtain ⟨y1, n1, m1⟩ := row_bytes r1
  obtain ⟨y2, n2, m2⟩ := row_bytes r2
  have HB : Hid (Calls Try.prog 23 #[.slice a0 l0 c0, .slice a1 l1 c1, .slice a2 l2 c2] w fun e w' => IsB e ∧ w' = w) := bytes23 a0 a1 a2 l0 c0 l1 c1 l2 c2 w m0 m1 m2
  obtain ⟨Z0, hZ0⟩ : ∃ Z, Z = z0.take l0 := ⟨_, rfl⟩
  obtain ⟨Z1, hZ1⟩ : ∃ Z, Z = z1.take l1 := ⟨_, rfl⟩
  obtain ⟨Z2, hZ2⟩ : ∃ Z, Z = z2.take l2 := ⟨_, rfl⟩
  rw [← hZ0] at y0 n0
  rw [← hZ1] at y1 n1
  rw [← hZ2] at y2 n2
  have R0 : Hid (IsRow .u8 w a0 l0 c0 z0) := r0
  have R1 : Hid (IsRow .u8 w a1 l1 c1 z1) := r1
  have R2 : Hid (IsRow .u8 w a2 l2 c2 z2) := r2
  have N0 : Hid (Z0.length = l0) := n0
  have N1 : Hid (Z1.length = l1) := n1
  have N2 : Hid (Z2.length = l2) := n2
  have Y1 : Hid (∀ x ∈ Z1, 0 ≤ x ∧ x ≤ 255) := y1
  have HZ0 : Hid (z0.take l0 = Z0) := hZ0.symm
  have HZ1 : Hid (z1.take l1 = Z1) := hZ1.symm
  have HZ2 : Hid (z2.take l2 = Z2) := hZ2.symm
  unfold maxLen at m0 m1 m2
  clear r0 r1 r2 n0 n1 n2 y0 y1 y2 hZ0 hZ1 hZ2
  by_cases hsum : l0 + 6 * l1 + 2 + l2 ≤ 1048576
  · have k0 : (l0 : Int) ≤ 1048576 := by omega
    have k1 : (l1 : Int) ≤ 1048576 := by omega
    have k2 : (l2 : Int) ≤ 1048576 := by omega
    have ksum : (l0 : Int) + 6 * (l1 : Int) + 2 + (l2 : Int) ≤ 1048576 := by omega
    go_enter Try.func7, Try.ntmps7
    go_wp2_with fail
    refine HB.out.mono ?_
    rintro e w' ⟨he, hw'⟩
    subst w'
    clear HB
    rcases he with rfl | rfl
    rotate_left
    · go_wp2
      go_ret
      exact ⟨rfl, Below.refl _ _⟩
    go_wp2_with fail
    refine (clone_any a0 l0 c0 z0 w (by omega) R0.out).mono ?_
    rintro e W1 ⟨b0, rfl, hb1, hr0⟩
    rw [HZ0.out] at hr0
    go_wp2_with fail
    refine (clone_any a1 l1 c1 z1 W1 (by omega) (R1.out.later hb1)).mono ?_
    rintro e W2 ⟨b1, rfl, hb2, hr1⟩
    rw [HZ1.out] at hr1
    have hb12 : Below w.heap.size w W2 := hb1.trans (hb2.mono hb1.size)
    go_wp2_with fail
    refine (clone_any a2 l2 c2 z2 W2 (by omega) (R2.out.later hb12)).mono ?_
    rintro e W3 ⟨b2, rfl, hb3, hr2⟩
    rw [HZ2.out] at hr2
    have hb13 : Below w.heap.size w W3 := hb12.trans (hb3.mono hb12.size)
    have O0 := clone_own hr0.out N0.out (V := W3) (hb2.trans (hb3.mono hb2.size))
    have O1 := clone_own hr1.out N1.out (V := W3) hb3
    have O2 := clone_own hr2.out N2.out (V := W3) (Below.refl _ _)
    clear hr0 hr1 hr2 R0 R1 R2 HZ0 HZ1 HZ2 hb1 hb2 hb3 hb12
    have HQ := quote24 b1 l1 l1 0 Z1 W3 O1 N1.out Y1.out (by omega)
    have hEl : (encs Z1).length ≤ 6 * l1 := by rw [← N1.out]; exact encs_len Z1
    obtain ⟨m, hm⟩ : ∃ m, m = (encs Z1).length + 2 := ⟨_, rfl⟩
    rw [← hm] at HQ
    have HM : Hid (m = (encs Z1).length + 2) := hm
    have hm2 : m ≤ 6 * l1 + 2 := by omega
    have hm0 : 2 ≤ m := by omega
    clear hEl hm
    go_wp2_with fail
    refine HQ.mono ?_
    rintro e W4 ⟨rfl, hb4, hrq⟩
    clear HQ
    have hbw4 : Below w.heap.size w W4 := hb13.trans (hb4.mono hb13.size)
    obtain ⟨X0, hX0⟩ : ∃ X, X = Z0.map (Value.int .u8) := ⟨_, rfl⟩
    obtain ⟨X1, hX1⟩ : ∃ X, X = (34 :: (encs Z1 ++ [34])).map (Value.int .u8) := ⟨_, rfl⟩
    obtain ⟨X2, hX2⟩ : ∃ X, X = Z2.map (Value.int .u8) := ⟨_, rfl⟩
    have HX0l : Hid (X0.length = l0) := by show _ = _; rw [hX0, List.length_map]; exact N0.out
    have HX1l : Hid (X1.length = m) := by show _ = _; rw [hX1, List.length_map, HM.out]; simp
    have HX2l : Hid (X2.length = l2) := by show _ = _; rw [hX2, List.length_map]; exact N2.out
    have HX0o : Hid (∀ v ∈ X0, v.oneCell' = true) := by rw [hX0]; exact ints_one _
    have HX1o : Hid (∀ v ∈ X1, v.oneCell' = true) := by rw [hX1]; exact ints_one _
    have HX2o : Hid (∀ v ∈ X2, v.oneCell' = true) := by rw [hX2]; exact ints_one _
    have HS0 : Hid (Src W4 b0 X0) := by
      refine Src.mk ?_
      rcases O0 with ⟨h1, h2⟩ | ⟨g, h1, h2⟩
      · exact .inl ⟨h1, by rw [hX0, h2]; rfl⟩
      · exact .inr ⟨g, h1, by rw [hX0]; exact (hb4.block g (Array.getElem?_eq_some_iff.1 h2).1).trans h2⟩
    have HS1 : Hid (Src W4 (some ⟨W3.heap.size, 0, none⟩) X1) := Src.mk (.inr ⟨_, rfl, by rw [hX1]; exact hrq.out⟩)
    have HS2 : Hid (Src W4 b2 X2) := by
      refine Src.mk ?_
      rcases O2 with ⟨h1, h2⟩ | ⟨g, h1, h2⟩
      · exact .inl ⟨h1, by rw [hX2, h2]; rfl⟩
      · exact .inr ⟨g, h1, by rw [hX2]; exact (hb4.block g (Array.getElem?_eq_some_iff.1 h2).1).trans h2⟩
    have HD : Hid (X0 ++ (X1 ++ X2) = (Z0 ++ (34 :: (encs Z1 ++ 34 :: Z2))).map (Value.int .u8)) := by show _ = _; rw [hX0, hX1, hX2]; simp
    clear hX0 hX1 hX2 O0 O1 O2 hrq hb4 hb13
    obtain ⟨f, hf⟩ := runs_encs (Z0 ++ (34 :: (encs Z1 ++ 34 :: Z2))) Z2 Z1 (l0 + 1) Y1.out (by rw [← N0.out, List.drop_append]; simp)
    have HRUN : Hid (Runs (Z0 ++ (34 :: (encs Z1 ++ 34 :: Z2))) f (l0 + 1) (l0 + 1 + (encs Z1).length)) := hf
    clear hf
    have hmk : ∀ w, (Instr.makeSlice 22 (.int .i64 ((l0 : Int) + (m : Int) + (l2 : Int))) (.int .i64 ((l0 : Int) + (m : Int) + (l2 : Int)))).run Try.prog w = .ok (.slice (some ⟨w.heap.size, 0, none⟩) (l0 + m + l2) (l0 + m + l2)) (w.alloc (.cells (madeCells #[.int .u8 0] (l0 + m + l2)) 5)) := fun w =>
      run_make_row' (P := Try.prog) 22 5 (.int .u8 0) 1 Try.underlying22 Try.info5 rfl .i64 .i64 (l0 + m + l2) (by omega) (by omega) w
    obtain ⟨C, hC⟩ : ∃ C, C = (madeCells #[.int .u8 0] (l0 + m + l2)).toList := ⟨_, rfl⟩
    have HC : Hid (C.toArray = madeCells #[.int .u8 0] (l0 + m + l2)) := by show _ = _; rw [hC]
    have HCl : Hid (C.length = l0 + m + l2) := by show _ = _; rw [hC]; simp [size_madeCells]
    clear hC
    have j1 : (l0 : Int) ≤ (l0 : Int) + (m : Int) + (l2 : Int) := by omega
    have j2 : (l0 : Int) + (m : Int) ≤ (l0 : Int) + (m : Int) + (l2 : Int) := by omega
    have j3 : ¬ (l0 = l0 + m + l2) := by omega
    have HSP : Hid (splice (splice (splice C 0 X0) l0 X1) (l0 + m) X2 = X0 ++ (X1 ++ X2)) := splice_splice_splice C X0 X1 X2 l0 m HX0l.out HX1l.out (by rw [HCl.out, HX2l.out])
    have HL1 : Hid ((splice C 0 X0).length = l0 + m + l2) := by show _ = _; rw [length_splice _ _ _ (by rw [HX0l.out, HCl.out]; omega)]; exact HCl.out
    have HL2 : Hid ((splice (splice C 0 X0) l0 X1).length = l0 + m + l2) := by show _ = _; rw [length_splice _ _ _ (by rw [HX1l.out, HL1.out]; omega)]; exact HL1.out
    go_wp2_with (first | (refine wpList_copy_splice rfl (.tmp 56) (.tmp 57) 22 22 rfl 5 Try.underlying22 Try.size5 _ _ _ _ _ _ rfl rfl W4.heap.size 0 C 5 (by rw [HC.out]; exact blk_new _ _) X0 (by rw [HX0l.out]; exact (Nat.min_eq_left (by omega)).symm) (fun h => ⟨rfl, HS0.out _ ((Below.refl _ _).alloc (Nat.le_refl _) _) h⟩) (by rw [HX0l.out, HCl.out]; omega) HX0o.out W4.heap.size W4 ((Below.refl _ _).alloc (Nat.le_refl _) _) (Nat.le_refl _) ?_; intro w5 hr5 hb5) | (refine wpList_copy_splice rfl (.tmp 62) (.tmp 63) 22 22 rfl 5 Try.underlying22 Try.size5 _ _ _ _ _ _ rfl rfl W4.heap.size l0 (splice C 0 X0) 5 hr5.out X1 (by rw [HX1l.out]; exact (Nat.min_eq_left (by omega)).symm) (fun h => ⟨rfl, HS1.out _ hb5 h⟩) (by rw [HX1l.out, HL1.out]; omega) HX1o.out W4.heap.size W4 hb5 (Nat.le_refl _) ?_; intro w6 hr6 hb6) | (refine wpList_copy_splice rfl (.tmp 71) (.tmp 72) 22 22 rfl 5 Try.underlying22 Try.size5 _ _ _ _ _ _ rfl rfl W4.heap.size (l0 + m) (splice (splice C 0 X0) l0 X1) 5 hr6.out X2 ?_ ?_ (Nat.le_of_eq (by rw [HX2l.out, HL2.out])) HX2o.out W4.heap.size W4 hb6 (Nat.le_refl _) ?_))
    · rw [HX2l.out]; exact (Nat.min_eq_left (by omega)).symm
    · exact List.eq_nil_of_length_eq_zero (by rw [HX2l.out]; omega)
    · intro h
      exact ⟨by have := HX2l.out; omega, HS2.out _ hb6 h⟩
    · intro w7 hr7 hb7
      have HR7 : Hid (w7.heap[W4.heap.size]? = some (.cells ((Z0 ++ (34 :: (encs Z1 ++ 34 :: Z2))).map (Value.int .u8)).toArray 5 (0, 0))) := by
        show _ = _
        rw [hr7.out, HSP.out, HD.out]
      have hlt7 : W4.heap.size < w7.heap.size := (Array.getElem?_eq_some_iff.1 HR7.out).1
      have hbw7 : Below w.heap.size w w7 := hbw4.trans (hb7.mono hbw4.size)
      clear hr7 hb7 hr5 hb5 hr6 hb6 HS0 HS1 HS2 HX0o HX1o HX2o HX0l HX1l HX2l HC HCl HL1 HL2 HSP HD
      go_wp2_with fail
      refine (make19 (.slice (some ⟨W4.heap.size, 0, none⟩) (l0 + m) (l0 + m)) (l0 : Int) w7 _ _ _ rfl).mono ?_
      rintro e W8 ⟨rfl, hb8, hblk⟩
      have hbw8 : Below w.heap.size w W8 := hbw7.trans (hb8.mono hbw7.size)
      have HSK := skip20 w7.heap.size W4.heap.size (l0 + m) (Z0 ++ (34 :: (encs Z1 ++ 34 :: Z2))) l0 f (l0 + 1 + (encs Z1).length) W8 (own_cell hblk rfl) (own_cell hblk rfl) (by unfold World.frozen?; simp [hblk]) hlt7 ((hb8.block _ hlt7).trans HR7.out) (by have h0 := N0.out; have h2 := N2.out; have hm := HM.out; simp; omega) (by omega) HRUN.out
      clear hblk HR7
      go_wp2_with fail
      refine HSK.mono ?_
      rintro e W9 ⟨rfl, hb9, hp9, _⟩
      have hbw9 : Below w.heap.size w W9 := hbw8.trans (hb9.mono hbw7.size)
      have epos : (((l0 + 1 + (encs Z1).length : Nat) : Int) + 1) = (l0 : Int) + (m : Int) := by have hm := HM.out; omega
      rw [epos] at hp9
      clear HSK epos
      go_wp2_with fail
      refine (pos21 w7.heap.size _ W9 hp9).mono ?_
      rintro e w10 ⟨rfl, hw10⟩
      subst w10
      go_wp2
      go_ret
      exact ⟨by simp, hbw9⟩
    · intro w7 hr7 hb7
      have HR7 : Hid (w7.heap[W4.heap.size]? = some (.cells ((Z0 ++ (34 :: (encs Z1 ++ 34 :: Z2))).map (Value.int .u8)).toArray 5 (0, 0))) := by
        show _ = _
        rw [hr7.out, HSP.out, HD.out]
      have hlt7 : W4.heap.size < w7.heap.size := (Array.getElem?_eq_some_iff.1 HR7.out).1
      have hbw7 : Below w.heap.size w w7 := hbw4.trans (hb7.mono hbw4.size)
      clear hr7 hb7 hr5 hb5 hr6 hb6 HS0 HS1 HS2 HX0o HX1o HX2o HX0l HX1l HX2l HC HCl HL1 HL2 HSP HD
      go_wp2_with fail
      refine (make19 (.slice (some ⟨W4.heap.size, 0, none⟩) (l0 + m + l2) (l0 + m + l2)) (l0 : Int) w7 _ _ _ rfl).mono ?_
      rintro e W8 ⟨rfl, hb8, hblk⟩
      have hbw8 : Below w.heap.size w W8 := hbw7.trans (hb8.mono hbw7.size)
      have HSK := skip20 w7.heap.size W4.heap.size (l0 + m + l2) (Z0 ++ (34 :: (encs Z1 ++ 34 :: Z2))) l0 f (l0 + 1 + (encs Z1).length) W8 (own_cell hblk rfl) (own_cell hblk rfl) (by unfold World.frozen?; simp [hblk]) hlt7 ((hb8.block _ hlt7).trans HR7.out) (by have h0 := N0.out; have h2 := N2.out; have hm := HM.out; simp; omega) (by omega) HRUN.out
      clear hblk HR7
      go_wp2_with fail
      refine HSK.mono ?_
      rintro e W9 ⟨rfl, hb9, hp9, _⟩
      have hbw9 : Below w.heap.size w W9 := hbw8.trans (hb9.mono hbw7.size)
      have epos : (((l0 + 1 + (encs Z1).length : Nat) : Int) + 1) = (l0 : Int) + (m : Int) := by have hm := HM.out; omega
      rw [epos] at hp9
      clear HSK epos
      go_wp2_with fail
      refine (pos21 w7.heap.size _ W9 hp9).mono ?_
      rintro e w10 ⟨rfl, hw10⟩
      subst w10
      go_wp2
      go_ret
      exact ⟨by simp, hbw9⟩
  · go_enter Try.func7, Try.ntmps7
    go_wp2_with fail
    refine HB.out.mono ?_
    rintro e w' ⟨he, hw'⟩
    subst w'
    clear HB
    rcases he with rfl | rfl
    rotate_left
    · go_wp2
      go_ret
      exact ⟨rfl, Below.refl _ _⟩
    by_cases k0 : (l0 : Int) ≤ 1048576
    · by_cases k1 : (l1 : Int) ≤ 1048576
      · by_cases k2 : (l2 : Int) ≤ 1048576
        · have ksum : 1048576 < (l0 : Int) + 6 * (l1 : Int) + 2 + (l2 : Int) := by omega
          go_wp2
          go_ret
          exact ⟨rfl, Below.refl _ _⟩
        · go_wp2
          go_ret
          exact ⟨rfl, Below.refl _ _⟩
      · go_wp2
        go_ret
        exact ⟨rfl, Below.refl _ _⟩
    · go_wp2
      go_ret
      exact ⟨rfl, Below.refl _ _⟩
end Go.Proofs.Qxb6601629a
