import Derived.Test.Qxb6601629aKind
namespace Go.Proofs.Qxb6601629a.fnJsonKindHangsOnFirstByteAlone
open Go.ChangeShapes Go.WideShapes Go.ChangeAt Go.RowKit
set_option linter.unusedVariables false

set_option maxHeartbeats 1000000 in
theorem walk (a0 : Option Addr) (len0 cap0 : Nat) (z0 : List Int) (a1 : Option Addr) (len1 cap1 : Nat) (z1 : List Int) (w : World) (w0 : IsRow .u8 w a0 len0 cap0 z0) (w1 : IsRow .u8 w a1 len1 cap1 z1) :
    Calls Try.prog 3 #[.slice a0 len0 cap0, .slice a1 len1 cap1] w fun e w' => e = .returned (.bool true) ∧ Below w.heap.size w w' := by
  by_cases h0 : len0 = 0
  · have hb0 : ((len0 : Int) == 0) = true := by simpa using h0
    clear h0
    go_enter Try.func3, Try.ntmps3
    go_wp2_with fail
    refine (zzBytes_any _ _ _ _ _ _ _).mono ?_
    rintro e w' ⟨he, rfl⟩
    rcases he with ⟨rfl, hlen⟩ | rfl
    all_goals
      go_wp2
      go_ret
      exact ⟨rfl, Below.refl _ _⟩
  have hb0 : ((len0 : Int) == 0) = false := by simpa using h0
  rcases w0 with ⟨rfl, rfl, rfl, rfl⟩ | ⟨x, rfl, h1, h2, h3, h4, h5⟩
  · exact absurd rfl h0
  obtain ⟨z, hz⟩ : ∃ z, ((z0.take len0).map (Value.int .u8))[0]? = some (.int .u8 z) := by
    match z0, h3 with
    | [], h3 => simp at h3; omega
    | y :: ys, _ => exact ⟨y, by match len0, h0 with | n + 1, _ => simp⟩
  have HZ : Hid (((z0.take len0).map (Value.int .u8))[0]? = some (.int .u8 z)) := hz
  clear hz
  have HR : Hid (∀ i v, ((z0.take len0).map (Value.int .u8))[i]? = some v → w.cell? (x.add i) = some v) := fun i v hv => IsRow.cells h4 i v hv
  have HL : Hid ((z0.take len0).length = len0) := by show _ = _; simp; omega
  go_enter Try.func3, Try.ntmps3
  go_wp2_with fail
  refine (zzBytes_any _ _ _ _ _ _ _).mono ?_
  rintro e w' ⟨he, hw'⟩
  subst hw'
  rcases he with ⟨rfl, hlen⟩ | rfl
  rotate_left
  · go_wp2
    go_ret
    exact ⟨rfl, Below.refl _ _⟩
  have hl0 : (len0 : Int) ≤ 1048576 := by omega
  have hl1 : (len1 : Int) ≤ 1048576 := by omega
  clear h1 h2 h3 h4 h5
  go_wp2_with fail
  refine (clone_some x len0 cap0 (z0.take len0) _ HL.out (by omega) HR.out).mono ?_
  rintro e w2 ⟨rfl, hb1, hr1⟩
  have w2r := w1.later hb1
  go_wp2_with fail
  refine (clone_any a1 len1 cap1 z1 w2 (by omega) w2r).mono ?_
  rintro e w3 ⟨a1', rfl, hb2, hr2⟩
  have hmk : ∀ w, (Instr.makeSlice 22 (.int .i64 (1 + (len1 : Int))) (.int .i64 (1 + (len1 : Int)))).run Try.prog w = .ok (.slice (some ⟨w.heap.size, 0, none⟩) (1 + len1) (1 + len1)) (w.alloc (.cells (madeCells #[.int .u8 0] (1 + len1)) 5)) := by
    intro w
    have h := run_make_row' (P := Try.prog) 22 5 (.int .u8 0) 1 Try.underlying22 Try.info5 rfl .i64 .i64 (1 + len1) (by omega) (by omega) w
    rw [show (((1 + len1 : Nat)) : Int) = 1 + (len1 : Int) from by omega] at h
    exact h
  have hlt1 : w'.heap.size < w2.heap.size := (Array.getElem?_eq_some_iff.1 hr1.out).1
  have hsz : w2.heap.size ≤ w3.heap.size := hb2.size
  have hcb : w3.cell? ⟨w'.heap.size, 0, none⟩ = some (.int .u8 z) := (hb2.cell (p := ⟨w'.heap.size, 0, none⟩) hlt1).trans (own_cell hr1.out HZ.out)
  have hl0' : (0 : Int) < (len0 : Int) := by omega
  have hlt3 : w'.heap.size < w3.heap.size := by omega
  have hbw : Below w'.heap.size w' w3 := hb1.trans (hb2.mono (by omega))
  obtain ⟨X, hX⟩ : ∃ X, X = (z1.take len1).map (Value.int .u8) := ⟨_, rfl⟩
  have HXl : Hid (X.length = len1) := by
    show _ = _
    rcases w2r with ⟨h, hh, _, hz⟩ | ⟨x, _, q1, q2, q3, _⟩
    · rw [hX, hz, hh]; rfl
    · rw [hX]; simp; omega
  have HX1 : Hid (∀ v ∈ X, v.oneCell' = true) := by
    intro v hv; rw [hX] at hv; simp only [List.mem_map] at hv; obtain ⟨a, _, rfl⟩ := hv; rfl
  rw [← hX] at hr2
  clear hX
  clear hb1 hr1 w2r HR HL HZ w1
  by_cases hn : len1 = 0
  · subst hn
    clear hmk
    have hmk : ∀ w, (Instr.makeSlice 22 (.int .i64 1) (.int .i64 1)).run Try.prog w = .ok (.slice (some ⟨w.heap.size, 0, none⟩) 1 1) (w.alloc (.cells (madeCells #[.int .u8 0] 1) 5)) :=
      fun w => run_make_row' (P := Try.prog) 22 5 (.int .u8 0) 1 Try.underlying22 Try.info5 rfl .i64 .i64 1 (by omega) (by omega) w
    have hm0 : (madeCells #[.int .u8 0] 1)[0]? = some (.int .u8 0) := made_get _ _ _ (by omega)
    have hc0 : (w3.alloc (.cells ((madeCells #[.int .u8 0] 1).setIfInBounds 0 (.int .u8 z)) 5)).cell? ⟨w3.heap.size, 0, none⟩ = some (.int .u8 z) := by
      unfold World.cell?; rw [blk_new]; simp [size_madeCells]
    have hcb' : (w3.alloc (.cells ((madeCells #[.int .u8 0] 1).setIfInBounds 0 (.int .u8 z)) 5)).cell? ⟨w'.heap.size, 0, none⟩ = some (.int .u8 z) :=
      (World.cell?_of_block (w := w3) (Below.heap_alloc _ _ _ hlt3)).trans hcb
    have hfin : Below w'.heap.size w' (w3.alloc (.cells ((madeCells #[.int .u8 0] 1).setIfInBounds 0 (.int .u8 z)) 5)) := hbw.alloc (by omega) _
    have HC0 := hc0
    have HCB := hcb'
    go_wp2_with (refine wpList_copy_nothing rfl (.tmp 42) (.tmp 43) 22 22 rfl 5 Try.underlying22 Try.size5 _ _ _ _ _ _ rfl rfl rfl ?_)
    refine (kind_any _ _ _ z _ (by omega) HCB).mono ?_
    rintro e w' ⟨rfl, rfl⟩
    go_wp2_with fail
    refine (kind_any _ _ _ z _ (by omega) HC0).mono ?_
    rintro e w' ⟨rfl, rfl⟩
    go_wp2_with fail
    refine (isKind_any z _).mono ?_
    rintro e w' ⟨rfl, rfl⟩
    go_wp2
    go_ret
    exact ⟨rfl, hfin⟩
  · have hm0 : (madeCells #[.int .u8 0] (1 + len1))[0]? = some (.int .u8 0) := made_get _ _ _ (by omega)
    obtain ⟨ha1, hr3⟩ : a1' = some ⟨w2.heap.size, 0, none⟩ ∧ Hid (w3.heap[w2.heap.size]? = some (.cells X.toArray 5 (0, 0))) := by
      rcases hr2.out with ⟨_, h, _⟩ | h
      · exact absurd h hn
      · exact h
    clear hr2
    subst ha1
    have hlt23 : w2.heap.size < w3.heap.size := (Array.getElem?_eq_some_iff.1 hr3.out).1
    obtain ⟨C, hC⟩ : ∃ C, C = ((madeCells #[.int .u8 0] (1 + len1)).setIfInBounds 0 (.int .u8 z)).toList := ⟨_, rfl⟩
    have HC : Hid (C = ((madeCells #[.int .u8 0] (1 + len1)).setIfInBounds 0 (.int .u8 z)).toList) := hC
    have HC0 : Hid (C[0]? = some (.int .u8 z)) := by show _ = _; rw [hC, Array.getElem?_toList, Array.getElem?_setIfInBounds_self_of_lt (by rw [size_madeCells]; omega)]
    have HCl : Hid (C.length = 1 + len1) := by show _ = _; rw [hC]; simp [size_madeCells]
    clear hC
    have hn1 : 0 < len1 := by omega
    go_wp2_with (refine wpList_copy_splice rfl (.tmp 42) (.tmp 43) 22 22 rfl 5 Try.underlying22 Try.size5 _ _ _ _ _ _ rfl rfl w3.heap.size 1 C 5 ?_ X ?_ ?_ ?_ HX1.out w3.heap.size w3 ?_ (Nat.le_refl _) ?_)
    · rw [HC.out]; exact blk_new _ _
    · simpa using HXl.out
    · exact fun _ j v hj => own_cell hr3.out hj
    · rw [HCl.out, HXl.out]; omega
    · exact (Below.refl _ _).alloc (Nat.le_refl _) _
    intro w4 hr4 hb4
    have hcb4 : w4.cell? ⟨w'.heap.size, 0, none⟩ = some (.int .u8 z) := (hb4.cell (p := ⟨w'.heap.size, 0, none⟩) hlt3).trans hcb
    have hc4 : w4.cell? ⟨w3.heap.size, 0, none⟩ = some (.int .u8 z) := own_cell hr4.out (by
      unfold splice
      rw [List.getElem?_append_left (by simp; rw [HCl.out]; omega), List.getElem?_take, if_pos (by omega)]
      exact HC0.out)
    clear hcb
    go_wp2_with fail
    refine (kind_any _ _ _ z _ (by omega) hcb4).mono ?_
    rintro e w' ⟨rfl, rfl⟩
    go_wp2_with fail
    refine (kind_any _ _ _ z _ (by omega) hc4).mono ?_
    rintro e w' ⟨rfl, rfl⟩
    go_wp2_with fail
    refine (isKind_any z _).mono ?_
    rintro e w' ⟨rfl, rfl⟩
    go_wp2
    go_ret
    exact ⟨rfl, hbw.trans (hb4.mono (by omega))⟩
end Go.Proofs.Qxb6601629a.fnJsonKindHangsOnFirstByteAlone
