import Derived.Test.Qxb6601629aClose
import Derived.Test.Qxb6601629aEq
namespace Go.Proofs.Qxb6601629a
open Go.ChangeShapes Go.WideShapes Go.ChangeAt Go.RowKit
set_option linter.unusedVariables false

theorem bytes17 (a : Option Addr) (l c : Nat) (p : Int) (w : World) :
    Calls Try.prog 17 #[.slice a l c, .int .i64 p] w fun e w' => e = .returned (.bool (decide (l ≤ 1048576))) ∧ w' = w := by
  by_cases h : l ≤ 1048576
  · rw [decide_eq_true h]
    go_enter Try.func17, Try.ntmps17
    go_wp2
    go_ret
    exact ⟨rfl, rfl⟩
  · rw [decide_eq_false h]
    go_enter Try.func17, Try.ntmps17
    go_wp2
    go_ret
    exact ⟨rfl, rfl⟩

/-- An address at which a cell lies has no spot. -/
theorem addr_plain' {w : World} {a : Addr} {v : Value} (h : w.cell? a = some v) : a = ⟨a.block, a.off, none⟩ := by
  unfold World.cell? at h
  split at h
  · split at h
    · cases h
    · rename_i hs
      cases a with
      | mk b o s => cases s with
        | none => rfl
        | some x => simp at hs
  · cases h

theorem add_plain' (b o i : Nat) : (⟨b, o, none⟩ : Addr).add i = ⟨b, o + i, none⟩ := by
  unfold Addr.add; split <;> simp_all

set_option maxHeartbeats 2000000 in
theorem land_any (a : Option Addr) (l c : Nat) (zs : List Int) (p : Int) (w : World) (hrow : IsRow .u8 w a l c zs) :
    Calls Try.prog 6 #[.slice a l c, .int .i64 p] w fun e w' => e = .returned (.bool true) ∧ Below w.heap.size w w' := by
  have HB : Hid (Calls Try.prog 17 #[.slice a l c, .int .i64 p] w fun e w' => e = .returned (.bool (decide (l ≤ 1048576))) ∧ w' = w) := bytes17 a l c p w
  by_cases h20 : l ≤ 1048576
  · rw [decide_eq_true h20] at HB
    by_cases hp0 : 0 ≤ p
    · by_cases hpl : p < l
      · obtain ⟨P, hP⟩ := Int.eq_ofNat_of_zero_le hp0
        subst hP
        rcases hrow with ⟨_, h0, _, _⟩ | ⟨x, rfl, h1, h2, h3, h4, h5⟩
        · omega
        obtain ⟨D, hD⟩ : ∃ D, D = zs.take l := ⟨_, rfl⟩
        have HDl : Hid (D.length = l) := by show _ = _; rw [hD]; simp; omega
        have HDx : Hid (∀ i v, (D.map (Value.int .u8))[i]? = some v → w.cell? (x.add i) = some v) := by
          rw [hD]; exact fun i v hv => IsRow.cells h4 i v hv
        have hx : x = ⟨x.block, x.off, none⟩ := by
          have := h4 0 (by omega)
          have e0 : x.add 0 = x := by simp [Addr.add]
          rw [e0] at this
          exact addr_plain' this
        generalize x.block = b at hx
        generalize x.off = off at hx
        subst hx
        have HC := close18 b off l c P D w (fun i y hy => by rw [← add_plain']; exact HDx.out i _ (by rw [List.getElem?_map, hy]; rfl)) HDl.out h20 (by omega)
        have HC' : Hid (Calls Try.prog 18 #[.slice (some ⟨b, off, none⟩) l c, .int .i64 P] w fun e w' => CloseRes D P l e ∧ w' = w) := HC
        clear HC hD h1 h2 h3 h4 h5
        go_enter Try.func6, Try.ntmps6
        go_wp2_with fail
        refine HB.out.mono ?_
        rintro e w' ⟨rfl, hw'⟩
        subst w'
        go_wp2_with fail
        refine HC'.out.mono ?_
        rintro e w' ⟨he, hw'⟩
        subst w'
        rcases he with rfl | ⟨j, rfl, hj1, hj2, hcl, hmin⟩
        · go_wp2
          go_ret
          exact ⟨rfl, Below.refl _ _⟩
        obtain ⟨f, hf⟩ := runs_closing D P j hcl hmin (j - (P + 1)) (P + 1) (Nat.le_refl _) (by omega) (by omega) (by rw [back_no (by omega)])
        have HRUN : Hid (Runs D f (P + 1) j) := hf
        clear hcl hmin hf HB HC'
        go_wp2_with fail
        refine (clone_some ⟨b, off, none⟩ l c D w HDl.out h20 HDx.out).mono ?_
        rintro e W1 ⟨rfl, hb1, hr1⟩
        have HDx1 : Hid (∀ i v, (D.map (Value.int .u8))[i]? = some v → W1.cell? ((⟨b, off, none⟩ : Addr).add i) = some v) := fun i v hv => (hb1.cell (cell_lt (HDx.out i v hv))).trans (HDx.out i v hv)
        go_wp2_with fail
        refine (clone_some ⟨b, off, none⟩ l c D W1 HDl.out h20 HDx1.out).mono ?_
        rintro e W2 ⟨rfl, hb2, hr2⟩
        have hlt1 : w.heap.size < W1.heap.size := (Array.getElem?_eq_some_iff.1 hr1.out).1
        have hlt2 : W1.heap.size < W2.heap.size := (Array.getElem?_eq_some_iff.1 hr2.out).1
        have HR12 : Hid (W2.heap[w.heap.size]? = some (.cells (D.map (Value.int .u8)).toArray 5 (0, 0))) := (hb2.block _ hlt1).trans hr1.out
        have hbw2 : Below w.heap.size w W2 := hb1.trans (hb2.mono hb1.size)
        go_wp2_with fail
        refine (make19 (.slice (some ⟨W1.heap.size, 0, none⟩) l l) (P : Int) W2 _ _ _ rfl).mono ?_
        rintro e W3 ⟨rfl, hb3, hblk⟩
        have hbw3 : Below w.heap.size w W3 := hbw2.trans (hb3.mono hbw2.size)
        have HSK := skip20 W2.heap.size W1.heap.size l D P f j W3 (own_cell hblk rfl) (own_cell hblk rfl) (by unfold World.frozen?; simp [hblk]) hlt2 ((hb3.block _ hlt2).trans hr2.out) HDl.out (by omega) HRUN.out
        have HO1 : Hid (OwnB W3 W2.heap.size (some ⟨W1.heap.size, 0, none⟩) D) := .inr ⟨_, rfl, hlt2, (hb3.block _ hlt2).trans hr2.out⟩
        have HO0 : Hid (OwnB W3 W2.heap.size (some ⟨w.heap.size, 0, none⟩) D) := .inr ⟨_, rfl, by omega, (hb3.block _ (by omega)).trans HR12.out⟩
        clear hblk hr1 hr2 HR12 HDx HDx1 hb1 hb2 hb3
        go_wp2_with fail
        refine HSK.mono ?_
        rintro e W4 ⟨rfl, hb4, hp4, hd4⟩
        have hbw4 : Below w.heap.size w W4 := hbw3.trans (hb4.mono hbw2.size)
        have HE : Hid (Calls Try.prog 14 #[.slice (some ⟨W1.heap.size, 0, none⟩) l l, .slice (some ⟨w.heap.size, 0, none⟩) l l] W4 fun e w' => e = .returned (.bool true) ∧ ∃ q, w' = W4.drewN q) := by
          have h := eq14 (some ⟨W1.heap.size, 0, none⟩) (some ⟨w.heap.size, 0, none⟩) D D l l l l W2.heap.size W4 (HO1.out.later hb4) (HO0.out.later hb4) HDl.out HDl.out (by rw [HDl.out]; exact h20)
          rw [decide_eq_true rfl] at h
          exact h
        clear HSK hb4 HO0 HO1
        go_wp2_with fail
        refine (pos21 W2.heap.size _ W4 hp4).mono ?_
        rintro e w' ⟨rfl, hw'⟩
        subst w'
        go_wp2_with fail
        refine (data22 W2.heap.size _ l l W4 hd4).mono ?_
        rintro e w' ⟨rfl, hw'⟩
        subst w'
        go_wp2_with fail
        refine HE.out.mono ?_
        rintro e w' ⟨rfl, q, rfl⟩
        go_wp2
        go_ret
        exact ⟨rfl, ⟨hbw4.os, hbw4.tape, hbw4.output, hbw4.size, hbw4.block⟩⟩
      · go_enter Try.func6, Try.ntmps6
        go_wp2_with fail
        refine HB.out.mono ?_
        rintro e w' ⟨rfl, hw'⟩
        subst w'
        go_wp2
        go_ret
        exact ⟨rfl, Below.refl _ _⟩
    · go_enter Try.func6, Try.ntmps6
      go_wp2_with fail
      refine HB.out.mono ?_
      rintro e w' ⟨rfl, hw'⟩
      subst w'
      go_wp2
      go_ret
      exact ⟨rfl, Below.refl _ _⟩
  · rw [decide_eq_false h20] at HB
    go_enter Try.func6, Try.ntmps6
    go_wp2_with fail
    refine HB.out.mono ?_
    rintro e w' ⟨rfl, hw'⟩
    subst w'
    go_wp2
    go_ret
    exact ⟨rfl, Below.refl _ _⟩
end Go.Proofs.Qxb6601629a
