import Derived.Test.Qxb6601269aCharge
namespace Go.Proofs.Qxb6601269a
open Go.ChangeShapes Go.WideShapes Go.ChangeAt Go.RowKit
set_option linter.unusedVariables false

theorem row_cell {w : World} {g i : Nat} {L : List Value} {v : Value} {t : TypeId} {f : Nat × Nat} (h : w.heap[g]? = some (.cells L.toArray t f)) (hv : L[i]? = some v) : w.cell? ⟨g, i, none⟩ = some v := by
  unfold World.cell?; rw [h]; simpa using hv
theorem row_free {w : World} {g : Nat} {L : List Value} {t : TypeId} (h : w.heap[g]? = some (.cells L.toArray t (0, 0))) (i : Nat) : w.frozen? ⟨g, i, none⟩ = false := by
  unfold World.frozen?; simp [h]

set_option maxHeartbeats 1000000 in
theorem charge10 (td tl ts rd rl rs f base bal at' u now : Int) (w : World)
    (f0 : 0 ≤ f) (f1 : f ≤ 2305843009213693952) (x0 : -9223372036854775807 ≤ bal - u) (x1 : bal - u ≤ 9223372036854775807) :
    Calls Try.prog 10 #[.int .i64 td, .int .u64 tl, .int .u8 ts, .int .i64 rd, .int .u64 rl, .int .u8 rs, .int .i64 f, .int .i64 base, .int .i64 bal, .int .i64 at', .int .i64 u, .int .i64 now] w fun e w' =>
      ∃ t, e = .returned (.tuple #[.int .i64 (cl (lo rd f) f (bal - u)), .int .i64 t]) ∧ Below w.heap.size w w' := by
  go_enter Try.func10, Try.ntmps10
  go_wp2_with fail
  have hA := (heap_alloc2_old w (.cells [.int .i64 td, .int .u64 tl, .int .u8 ts, .int .i64 rd, .int .u64 rl, .int .u8 rs, .int .i64 f, .int .i64 base].toArray 44) (.cells [.int .i64 bal, .int .i64 at'].toArray 46))
  have hB := (heap_alloc2_new w (.cells [.int .i64 td, .int .u64 tl, .int .u8 ts, .int .i64 rd, .int .u64 rl, .int .u8 rs, .int .i64 f, .int .i64 base].toArray 44) (.cells [.int .i64 bal, .int .i64 at'].toArray 46))
  have hW : Below w.heap.size w ((w.alloc (.cells [.int .i64 td, .int .u64 tl, .int .u8 ts, .int .i64 rd, .int .u64 rl, .int .u8 rs, .int .i64 f, .int .i64 base].toArray 44)).alloc (.cells [.int .i64 bal, .int .i64 at'].toArray 46)) :=
    ((Below.refl _ _).alloc (Nat.le_refl _) _).alloc (by simp) _
  generalize ((w.alloc (.cells [.int .i64 td, .int .u64 tl, .int .u8 ts, .int .i64 rd, .int .u64 rl, .int .u8 rs, .int .i64 f, .int .i64 base].toArray 44)).alloc (.cells [.int .i64 bal, .int .i64 at'].toArray 46)) = W at hA hB hW ⊢
  refine (charge12 w.heap.size (w.heap.size + 1) rd f bal at' u now W (row_cell hA rfl) (row_cell hA rfl) (row_cell hB rfl) (row_cell hB rfl) (row_free hB 0) (row_free hB 1) (by omega) f0 f1 x0 x1).mono ?_
  rintro e W2 ⟨rfl, h2⟩
  obtain ⟨hb2, hc0, t, hc1⟩ := h2.out
  have hbel : Below w.heap.size w W2 := hW.trans (hb2.mono (by omega))
  clear h2 hA hB hb2 hW
  go_wp2_with fail
  go_quiet (fail)
  go_wp2
  go_ret2
  exact ⟨t, rfl, hbel.os, hbel.tape, hbel.output, hbel.size, hbel.block⟩

/-- A rate as it comes in: eight cells. -/
abbrev rateV (td tl ts rd rl rs f base : Int) : Value := .agg #[.int .i64 td, .int .u64 tl, .int .u8 ts, .int .i64 rd, .int .u64 rl, .int .u8 rs, .int .i64 f, .int .i64 base]

set_option maxHeartbeats 1000000 in
theorem once7 (td tl ts rd rl rs f base bal at' u now : Int) (w : World)
    (f0 : 0 ≤ f) (f1 : f ≤ 2305843009213693952) (x0 : -9223372036854775807 ≤ bal - u) (x1 : bal - u ≤ 9223372036854775807) :
    Calls Try.prog 7 #[rateV td tl ts rd rl rs f base, .int .i64 bal, .int .i64 at', .int .i64 u, .int .i64 now] w fun e w' =>
      ∃ t, e = .returned (.tuple #[.int .i64 (cl (lo rd f) f (bal - u)), .int .i64 t]) ∧ Below w.heap.size w w' := by
  go_enter Try.func7, Try.ntmps7
  go_wp2_with fail
  have hW : Below w.heap.size w (w.alloc (.cells #[.int .i64 td, .int .u64 tl, .int .u8 ts, .int .i64 rd, .int .u64 rl, .int .u8 rs, .int .i64 f, .int .i64 base] 24)) := (Below.refl _ _).alloc (Nat.le_refl _) _
  have hsz : w.heap.size ≤ (w.alloc (.cells #[.int .i64 td, .int .u64 tl, .int .u8 ts, .int .i64 rd, .int .u64 rl, .int .u8 rs, .int .i64 f, .int .i64 base] 24)).heap.size := by simp
  generalize (w.alloc (.cells #[.int .i64 td, .int .u64 tl, .int .u8 ts, .int .i64 rd, .int .u64 rl, .int .u8 rs, .int .i64 f, .int .i64 base] 24)) = W at hW hsz ⊢
  refine (charge10 td tl ts rd rl rs f base bal at' u now W f0 f1 x0 x1).mono ?_
  rintro e W2 ⟨t, rfl, hb2⟩
  have hbel : Below w.heap.size w W2 := hW.trans (hb2.mono hsz)
  clear hW hsz hb2
  go_wp2
  go_ret2
  exact ⟨t, rfl, hbel⟩

theorem floor6 (td tl ts rd rl rs f base : Int) (w : World) (f0 : 0 ≤ f) (f1 : f ≤ 2305843009213693952) :
    Calls Try.prog 6 #[rateV td tl ts rd rl rs f base] w fun e w' => e = .returned (.int .i64 (lo rd f)) ∧ Below w.heap.size w w' := by
  unfold lo
  by_cases hz : rd = 0
  · subst hz
    rw [if_pos rfl]
    go_enter Try.func6, Try.ntmps6
    go_wp2
    go_ret
    exact ⟨rfl, (Below.refl _ _).alloc (Nat.le_refl _) _⟩
  · have hb : (rd == 0) = false := by simp [hz]
    rw [if_neg hz]
    clear hz
    go_enter Try.func6, Try.ntmps6
    go_wp2
    go_ret
    exact ⟨rfl, (Below.refl _ _).alloc (Nat.le_refl _) _⟩
end Go.Proofs.Qxb6601269a
