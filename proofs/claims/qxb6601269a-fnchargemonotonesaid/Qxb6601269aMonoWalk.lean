import Derived.Test.Qxb6601269aOnce
namespace Go.Proofs.Qxb6601269a
open Go.ChangeShapes Go.WideShapes Go.ChangeAt Go.RowKit
set_option linter.unusedVariables false

theorem Try.size24 : (Try.prog.info? 24).map (·.size) = some 8 := by kernel_rfl

set_option maxHeartbeats 2000000 in
/-- The law, its two charges in order. -/
theorem mono_le (td tl ts rd rl rs f base bal at' u1 u2 now : Int) (w : World) (f0 : 0 ≤ f) (f1 : f ≤ 2305843009213693952) (b0 : -f ≤ bal) (b1 : bal ≤ f)
    (p0 : -2 * f ≤ u1) (p1 : u1 ≤ f) (q0 : -2 * f ≤ u2) (q1 : u2 ≤ f) (h12 : u1 ≤ u2) :
    Calls Try.prog 4 #[rateV td tl ts rd rl rs f base, .int .i64 bal, .int .i64 at', .int .i64 u1, .int .i64 u2, .int .i64 now] w fun e w' => e = .returned (.bool true) ∧ Below w.heap.size w w' := by
  have m1 : cl (lo rd f) f (bal - u2) ≤ cl (lo rd f) f (bal - u1) := cl_mono (by omega)
  obtain ⟨m2, m3⟩ := cl_bd (x := bal - u2) (lo_le rd f f0)
  obtain ⟨m4, m5⟩ := cl_bd (x := bal - u1) (lo_le rd f f0)
  have H6 : Hid (∀ w, Calls Try.prog 6 #[rateV td tl ts rd rl rs f base] w fun e w' => e = .returned (.int .i64 (lo rd f)) ∧ Below w.heap.size w w') := fun w => floor6 td tl ts rd rl rs f base w f0 f1
  have H71 : Hid (∀ w, Calls Try.prog 7 #[rateV td tl ts rd rl rs f base, .int .i64 bal, .int .i64 at', .int .i64 u1, .int .i64 now] w fun e w' => ∃ t, e = .returned (.tuple #[.int .i64 (cl (lo rd f) f (bal - u1)), .int .i64 t]) ∧ Below w.heap.size w w') :=
    fun w => once7 td tl ts rd rl rs f base bal at' u1 now w f0 f1 (by omega) (by omega)
  have H72 : Hid (∀ w, Calls Try.prog 7 #[rateV td tl ts rd rl rs f base, .int .i64 bal, .int .i64 at', .int .i64 u2, .int .i64 now] w fun e w' => ∃ t, e = .returned (.tuple #[.int .i64 (cl (lo rd f) f (bal - u2)), .int .i64 t]) ∧ Below w.heap.size w w') :=
    fun w => once7 td tl ts rd rl rs f base bal at' u2 now w f0 f1 (by omega) (by omega)
  go_enter Try.func4, Try.ntmps4
  go_wp2_with fail
  have hW : Below w.heap.size w (w.alloc (.cells #[.int .i64 td, .int .u64 tl, .int .u8 ts, .int .i64 rd, .int .u64 rl, .int .u8 rs, .int .i64 f, .int .i64 base] 24)) := (Below.refl _ _).alloc (Nat.le_refl _) _
  have HB0 : Hid ((w.alloc (.cells #[.int .i64 td, .int .u64 tl, .int .u8 ts, .int .i64 rd, .int .u64 rl, .int .u8 rs, .int .i64 f, .int .i64 base] 24)).heap[w.heap.size]? = some (.cells #[.int .i64 td, .int .u64 tl, .int .u8 ts, .int .i64 rd, .int .u64 rl, .int .u8 rs, .int .i64 f, .int .i64 base] 24 (0, 0))) := heap_alloc_new _ _
  generalize w.alloc (.cells #[.int .i64 td, .int .u64 tl, .int .u8 ts, .int .i64 rd, .int .u64 rl, .int .u8 rs, .int .i64 f, .int .i64 base] 24) = W at hW HB0 ⊢
  refine (H6.out W).mono ?_
  rintro e W1 ⟨rfl, hb1⟩
  have hs0 : w.heap.size < W.heap.size := (Array.getElem?_eq_some_iff.1 HB0.out).1
  have hW1 : Below w.heap.size w W1 := hW.trans (hb1.mono (Nat.le_of_lt hs0))
  have HB1 : Hid (W1.heap[w.heap.size]? = some (.cells #[.int .i64 td, .int .u64 tl, .int .u8 ts, .int .i64 rd, .int .u64 rl, .int .u8 rs, .int .i64 f, .int .i64 base] 24 (0, 0))) := (hb1.block _ hs0).trans HB0.out
  clear hW HB0 hb1 hs0 H6
  go_wp2_with (refine wpList_load_row rfl 24 (.tmp 6) rfl w.heap.size rfl 24 #[.int .i64 td, .int .u64 tl, .int .u8 ts, .int .i64 rd, .int .u64 rl, .int .u8 rs, .int .i64 f, .int .i64 base] (0, 0) _ HB1.out Try.underlying24 rfl Try.size24 ?_)
  refine (H71.out W1).mono ?_
  rintro e W2 ⟨t1, rfl, hb2⟩
  have hs1 : w.heap.size < W1.heap.size := (Array.getElem?_eq_some_iff.1 HB1.out).1
  have hW2 : Below w.heap.size w W2 := hW1.trans (hb2.mono (Nat.le_of_lt hs1))
  have HB2 : Hid (W2.heap[w.heap.size]? = some (.cells #[.int .i64 td, .int .u64 tl, .int .u8 ts, .int .i64 rd, .int .u64 rl, .int .u8 rs, .int .i64 f, .int .i64 base] 24 (0, 0))) := (hb2.block _ hs1).trans HB1.out
  clear hW1 HB1 hb2 hs1 H71
  go_wp2_with (refine wpList_load_row rfl 24 (.tmp 6) rfl w.heap.size rfl 24 #[.int .i64 td, .int .u64 tl, .int .u8 ts, .int .i64 rd, .int .u64 rl, .int .u8 rs, .int .i64 f, .int .i64 base] (0, 0) _ HB2.out Try.underlying24 rfl Try.size24 ?_)
  refine (H72.out W2).mono ?_
  rintro e W3 ⟨t2, rfl, hb3⟩
  have hs2 : w.heap.size < W2.heap.size := (Array.getElem?_eq_some_iff.1 HB2.out).1
  have hW3 : Below w.heap.size w W3 := hW2.trans (hb3.mono (Nat.le_of_lt hs2))
  have hc6 : W3.cell? ⟨w.heap.size, 6, none⟩ = some (.int .i64 f) := row_cell (L := [.int .i64 td, .int .u64 tl, .int .u8 ts, .int .i64 rd, .int .u64 rl, .int .u8 rs, .int .i64 f, .int .i64 base]) ((hb3.block _ hs2).trans HB2.out) rfl
  clear hW2 HB2 hb3 hs2 H72
  go_wp2
  go_ret
  exact ⟨rfl, hW3⟩

set_option maxHeartbeats 2000000 in
/-- The law, its two charges exchanged. -/
theorem mono_gt (td tl ts rd rl rs f base bal at' u1 u2 now : Int) (w : World) (f0 : 0 ≤ f) (f1 : f ≤ 2305843009213693952) (b0 : -f ≤ bal) (b1 : bal ≤ f)
    (p0 : -2 * f ≤ u1) (p1 : u1 ≤ f) (q0 : -2 * f ≤ u2) (q1 : u2 ≤ f) (h12 : u2 < u1) :
    Calls Try.prog 4 #[rateV td tl ts rd rl rs f base, .int .i64 bal, .int .i64 at', .int .i64 u1, .int .i64 u2, .int .i64 now] w fun e w' => e = .returned (.bool true) ∧ Below w.heap.size w w' := by
  have m1 : cl (lo rd f) f (bal - u1) ≤ cl (lo rd f) f (bal - u2) := cl_mono (by omega)
  obtain ⟨m2, m3⟩ := cl_bd (x := bal - u2) (lo_le rd f f0)
  obtain ⟨m4, m5⟩ := cl_bd (x := bal - u1) (lo_le rd f f0)
  have H6 : Hid (∀ w, Calls Try.prog 6 #[rateV td tl ts rd rl rs f base] w fun e w' => e = .returned (.int .i64 (lo rd f)) ∧ Below w.heap.size w w') := fun w => floor6 td tl ts rd rl rs f base w f0 f1
  have H71 : Hid (∀ w, Calls Try.prog 7 #[rateV td tl ts rd rl rs f base, .int .i64 bal, .int .i64 at', .int .i64 u1, .int .i64 now] w fun e w' => ∃ t, e = .returned (.tuple #[.int .i64 (cl (lo rd f) f (bal - u1)), .int .i64 t]) ∧ Below w.heap.size w w') :=
    fun w => once7 td tl ts rd rl rs f base bal at' u1 now w f0 f1 (by omega) (by omega)
  have H72 : Hid (∀ w, Calls Try.prog 7 #[rateV td tl ts rd rl rs f base, .int .i64 bal, .int .i64 at', .int .i64 u2, .int .i64 now] w fun e w' => ∃ t, e = .returned (.tuple #[.int .i64 (cl (lo rd f) f (bal - u2)), .int .i64 t]) ∧ Below w.heap.size w w') :=
    fun w => once7 td tl ts rd rl rs f base bal at' u2 now w f0 f1 (by omega) (by omega)
  go_enter Try.func4, Try.ntmps4
  go_wp2_with fail
  have hW : Below w.heap.size w (w.alloc (.cells #[.int .i64 td, .int .u64 tl, .int .u8 ts, .int .i64 rd, .int .u64 rl, .int .u8 rs, .int .i64 f, .int .i64 base] 24)) := (Below.refl _ _).alloc (Nat.le_refl _) _
  have HB0 : Hid ((w.alloc (.cells #[.int .i64 td, .int .u64 tl, .int .u8 ts, .int .i64 rd, .int .u64 rl, .int .u8 rs, .int .i64 f, .int .i64 base] 24)).heap[w.heap.size]? = some (.cells #[.int .i64 td, .int .u64 tl, .int .u8 ts, .int .i64 rd, .int .u64 rl, .int .u8 rs, .int .i64 f, .int .i64 base] 24 (0, 0))) := heap_alloc_new _ _
  generalize w.alloc (.cells #[.int .i64 td, .int .u64 tl, .int .u8 ts, .int .i64 rd, .int .u64 rl, .int .u8 rs, .int .i64 f, .int .i64 base] 24) = W at hW HB0 ⊢
  refine (H6.out W).mono ?_
  rintro e W1 ⟨rfl, hb1⟩
  have hs0 : w.heap.size < W.heap.size := (Array.getElem?_eq_some_iff.1 HB0.out).1
  have hW1 : Below w.heap.size w W1 := hW.trans (hb1.mono (Nat.le_of_lt hs0))
  have HB1 : Hid (W1.heap[w.heap.size]? = some (.cells #[.int .i64 td, .int .u64 tl, .int .u8 ts, .int .i64 rd, .int .u64 rl, .int .u8 rs, .int .i64 f, .int .i64 base] 24 (0, 0))) := (hb1.block _ hs0).trans HB0.out
  clear hW HB0 hb1 hs0 H6
  go_wp2_with (refine wpList_load_row rfl 24 (.tmp 6) rfl w.heap.size rfl 24 #[.int .i64 td, .int .u64 tl, .int .u8 ts, .int .i64 rd, .int .u64 rl, .int .u8 rs, .int .i64 f, .int .i64 base] (0, 0) _ HB1.out Try.underlying24 rfl Try.size24 ?_)
  refine (H72.out W1).mono ?_
  rintro e W2 ⟨t1, rfl, hb2⟩
  have hs1 : w.heap.size < W1.heap.size := (Array.getElem?_eq_some_iff.1 HB1.out).1
  have hW2 : Below w.heap.size w W2 := hW1.trans (hb2.mono (Nat.le_of_lt hs1))
  have HB2 : Hid (W2.heap[w.heap.size]? = some (.cells #[.int .i64 td, .int .u64 tl, .int .u8 ts, .int .i64 rd, .int .u64 rl, .int .u8 rs, .int .i64 f, .int .i64 base] 24 (0, 0))) := (hb2.block _ hs1).trans HB1.out
  clear hW1 HB1 hb2 hs1 H72
  go_wp2_with (refine wpList_load_row rfl 24 (.tmp 6) rfl w.heap.size rfl 24 #[.int .i64 td, .int .u64 tl, .int .u8 ts, .int .i64 rd, .int .u64 rl, .int .u8 rs, .int .i64 f, .int .i64 base] (0, 0) _ HB2.out Try.underlying24 rfl Try.size24 ?_)
  refine (H71.out W2).mono ?_
  rintro e W3 ⟨t2, rfl, hb3⟩
  have hs2 : w.heap.size < W2.heap.size := (Array.getElem?_eq_some_iff.1 HB2.out).1
  have hW3 : Below w.heap.size w W3 := hW2.trans (hb3.mono (Nat.le_of_lt hs2))
  have hc6 : W3.cell? ⟨w.heap.size, 6, none⟩ = some (.int .i64 f) := row_cell (L := [.int .i64 td, .int .u64 tl, .int .u8 ts, .int .i64 rd, .int .u64 rl, .int .u8 rs, .int .i64 f, .int .i64 base]) ((hb3.block _ hs2).trans HB2.out) rfl
  clear hW2 HB2 hb3 hs2 H71
  go_wp2
  go_ret
  exact ⟨rfl, hW3⟩

set_option maxHeartbeats 2000000 in
theorem mono_any (td tl ts rd rl rs f base bal at' u1 u2 now : Int) (w : World) (hf : (Lit.int .i64 f).wf = true) :
    Calls Try.prog 4 #[rateV td tl ts rd rl rs f base, .int .i64 bal, .int .i64 at', .int .i64 u1, .int .i64 u2, .int .i64 now] w fun e w' => e = .returned (.bool true) ∧ Below w.heap.size w w' := by
  by_cases f0 : 0 ≤ f
  rotate_left
  · go_enter Try.func4, Try.ntmps4
    go_wp2
    go_ret
    exact ⟨rfl, (Below.refl _ _).alloc (Nat.le_refl _) _⟩
  by_cases f1 : f ≤ 2305843009213693952
  rotate_left
  · go_enter Try.func4, Try.ntmps4
    go_wp2
    go_ret
    exact ⟨rfl, (Below.refl _ _).alloc (Nat.le_refl _) _⟩
  by_cases b0 : -f ≤ bal
  rotate_left
  · go_enter Try.func4, Try.ntmps4
    go_wp2
    go_ret
    exact ⟨rfl, (Below.refl _ _).alloc (Nat.le_refl _) _⟩
  by_cases b1 : bal ≤ f
  rotate_left
  · go_enter Try.func4, Try.ntmps4
    go_wp2
    go_ret
    exact ⟨rfl, (Below.refl _ _).alloc (Nat.le_refl _) _⟩
  by_cases p0 : -2 * f ≤ u1
  rotate_left
  · go_enter Try.func4, Try.ntmps4
    go_wp2
    go_ret
    exact ⟨rfl, (Below.refl _ _).alloc (Nat.le_refl _) _⟩
  by_cases p1 : u1 ≤ f
  rotate_left
  · go_enter Try.func4, Try.ntmps4
    go_wp2
    go_ret
    exact ⟨rfl, (Below.refl _ _).alloc (Nat.le_refl _) _⟩
  by_cases q0 : -2 * f ≤ u2
  rotate_left
  · go_enter Try.func4, Try.ntmps4
    go_wp2
    go_ret
    exact ⟨rfl, (Below.refl _ _).alloc (Nat.le_refl _) _⟩
  by_cases q1 : u2 ≤ f
  rotate_left
  · go_enter Try.func4, Try.ntmps4
    go_wp2
    go_ret
    exact ⟨rfl, (Below.refl _ _).alloc (Nat.le_refl _) _⟩
  by_cases h12 : u1 ≤ u2
  · exact mono_le td tl ts rd rl rs f base bal at' u1 u2 now w f0 f1 b0 b1 p0 p1 q0 q1 h12
  · exact mono_gt td tl ts rd rl rs f base bal at' u1 u2 now w f0 f1 b0 b1 p0 p1 q0 q1 (by omega)
end Go.Proofs.Qxb6601269a
