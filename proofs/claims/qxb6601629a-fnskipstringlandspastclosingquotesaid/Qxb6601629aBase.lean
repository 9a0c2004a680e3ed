import Derived.Test.Qxb6601629aRows
import Derived.WalkKit
import Derived.ProofKit
import Derived.OpenShut
import Derived.ShutString
import Derived.ChangeOld
import Derived.Below
import Derived.Laws.CopyOwn
import Derived.Deep.OwnRows
import Derived.WalkSpells
import Derived.WalkLawsBesides
namespace Go.Proofs.Qxb6601629a
open Go.ChangeShapes Go.WideShapes Go.ChangeAt Go.RowKit
set_option linter.unusedVariables false

theorem Try.info5 : (Try.prog.info? 5).map (fun i => (i.zero, i.size, i.bytes)) = some (some (.int .u8 0), 1, 1) := by kernel_rfl
theorem Try.size5 : (Try.prog.info? 5).map (·.size) = some 1 := by kernel_rfl

/-- A slice of integers that came in: nil, or a row of 'cap' cells. -/
def IsRow (k : IntKind) (w : World) (a : Option Addr) (len cap : Nat) (zs : List Int) : Prop :=
  (a = none ∧ len = 0 ∧ cap = 0 ∧ zs = []) ∨
  ∃ x, a = some x ∧ len ≤ cap ∧ cap ≤ maxLen ∧ zs.length = cap ∧ (∀ i, i < zs.length → w.cell? (x.add i) = some (.int k (zs.getD i 0))) ∧ ∀ n ∈ zs, (Lit.int k n).wf = true

/-- A row of bytes of the call's own: nil, or a whole block that holds just these bytes. -/
def Own (w : World) (a : Option Addr) (L : List Int) : Prop :=
  (a = none ∧ L = []) ∨ ∃ g, a = some ⟨g, 0, none⟩ ∧ w.heap[g]? = some (.cells (L.map (Value.int .u8)).toArray 5 (0, 0))

theorem clone_nil (len cap : Nat) (w : World) :
    Calls Try.prog 9 #[.slice none len cap] w fun e w' => e = .returned (.slice none 0 0) ∧ w' = w := by
  have q22 : ∀ (w : World) (a : Option Addr) (n c n' c' : Nat), (binOp .eql 22 (.slice a n c) (.slice none n' c')).run Try.prog w = .ok (.bool a.isNone) w := fun w a n c n' c' => Lib.run_eql_slice_nil w _ _ a n c n' c' Try.underlying22
  go_enter Try.func9, Try.ntmps9
  go_wp2
  go_ret
  exact ⟨rfl, rfl⟩

theorem cell_lt {w : World} {a : Addr} {v : Value} (h : w.cell? a = some v) : a.block < w.heap.size := by
  unfold World.cell? at h
  split at h
  · rename_i hb; exact (Array.getElem?_eq_some_iff.1 hb).1
  · cases h

theorem blk_new (w : World) (o : Obj) : (w.alloc o).heap[w.heap.size]? = some o := by
  show (w.heap.push o)[w.heap.size]? = _
  simp

theorem made_get (z : Value) (n i : Nat) (hi : i < n) : (madeCells #[z] n)[i]? = some z := by
  rw [Array.getElem?_eq_getElem (by rw [size_madeCells]; exact hi)]; simp [madeCells, Nat.mod_one]

theorem splice_all {α : Type} (Z X : List α) (h : Z.length = X.length) : splice Z 0 X = X := by
  unfold splice; rw [List.drop_eq_nil_of_le (by omega)]; simp

set_option maxHeartbeats 400000 in
theorem clone_some (x : Addr) (len cap : Nat) (zs : List Int) (w : World) (hl : zs.length = len) (h20 : len ≤ 1048576)
    (hc : ∀ i v, (zs.map (Value.int .u8))[i]? = some v → w.cell? (x.add i) = some v) :
    Calls Try.prog 9 #[.slice (some x) len cap] w fun e w' => e = .returned (.slice (some ⟨w.heap.size, 0, none⟩) len len) ∧ Below w.heap.size w w' ∧
      Hid (w'.heap[w.heap.size]? = some (.cells (zs.map (Value.int .u8)).toArray 5 (0, 0))) := by
  have q22 : ∀ (w : World) (a : Option Addr) (n c n' c' : Nat), (binOp .eql 22 (.slice a n c) (.slice none n' c')).run Try.prog w = .ok (.bool a.isNone) w := fun w a n c n' c' => Lib.run_eql_slice_nil w _ _ a n c n' c' Try.underlying22
  have hmk := fun w => run_make_row' (P := Try.prog) 22 5 (.int .u8 0) 1 Try.underlying22 Try.info5 rfl .i64 .i64 len (by omega) (by omega) w
  obtain ⟨X, hX⟩ : ∃ X, X = zs.map (Value.int .u8) := ⟨_, rfl⟩
  have hXl : X.length = len := by rw [hX]; simpa using hl
  have hX1 : ∀ v ∈ X, v.oneCell' = true := by
    intro v hv; rw [hX] at hv; simp at hv; obtain ⟨a, _, rfl⟩ := hv; rfl
  rw [← hX] at hc ⊢
  clear hX hl
  have HXl : Hid (X.length = len) := hXl
  have HC : Hid (∀ i v, X[i]? = some v → w.cell? (x.add i) = some v) := hc
  have HX1 : Hid (∀ v ∈ X, v.oneCell' = true) := hX1
  clear hXl hc hX1
  go_enter Try.func9, Try.ntmps9
  go_wp2_with (refine wpList_copy_splice rfl (.tmp 9) (.tmp 10) 22 22 rfl 5 Try.underlying22 Try.size5 _ _ _ _ _ _ rfl rfl w.heap.size 0 (madeCells #[.int .u8 0] len).toList 5 ?_ X ?_ ?_ ?_ HX1.out w.heap.size w ?_ (Nat.le_refl _) ?_)
  · rw [Array.toArray_toList]; exact blk_new _ _
  · simpa using HXl.out
  · intro h0 j v hj
    have hv := HC.out j v hj
    rw [World.cell?_of_block (w := w) (Below.heap_alloc _ _ _ (cell_lt hv))]
    exact hv
  · rw [HXl.out]; simp [size_madeCells]
  · exact (Below.refl _ _).alloc (Nat.le_refl _) _
  · intro w' hw' hb
    rw [splice_all _ _ (by rw [HXl.out]; simp [size_madeCells])] at hw'
    go_wp2
    go_ret
    exact ⟨rfl, hb, hw'⟩

theorem IsRow.later {k : IntKind} {w w' : World} {a : Option Addr} {len cap : Nat} {zs : List Int} (h : IsRow k w a len cap zs) (hb : Below w.heap.size w w') : IsRow k w' a len cap zs := by
  rcases h with h | ⟨x, h0, h1, h2, h3, h4, h5⟩
  · exact .inl h
  · exact .inr ⟨x, h0, h1, h2, h3, fun i hi => (hb.cell (cell_lt (h4 i hi))).trans (h4 i hi), h5⟩

/-- The cells of a row that came in, as its clone reads them. -/
theorem IsRow.cells {k : IntKind} {w : World} {x : Addr} {len : Nat} {zs : List Int} (h4 : ∀ i, i < zs.length → w.cell? (x.add i) = some (.int k (zs.getD i 0))) (i : Nat) (v : Value)
    (hv : ((zs.take len).map (Value.int k))[i]? = some v) : w.cell? (x.add i) = some v := by
  simp only [List.getElem?_map, List.getElem?_take, Option.map_eq_some_iff] at hv
  obtain ⟨n, hn, rfl⟩ := hv
  split at hn
  · obtain ⟨hi, hn'⟩ := List.getElem?_eq_some_iff.1 hn
    rw [h4 i hi, List.getD_eq_getElem?_getD, hn]; rfl
  · cases hn

/-- A cell of a block of the call's own. -/
theorem own_cell {w : World} {g i : Nat} {L : List Value} {v : Value} {t : TypeId} {f : Nat × Nat} (h : w.heap[g]? = some (.cells L.toArray t f)) (hv : L[i]? = some v) : w.cell? ⟨g, i, none⟩ = some v := by
  unfold World.cell?; rw [h]; simpa using hv

/-- What a clone leaves, nil or not. -/
theorem clone_any (a : Option Addr) (len cap : Nat) (zs : List Int) (w : World) (h20 : len ≤ 1048576) (h : IsRow .u8 w a len cap zs) :
    Calls Try.prog 9 #[.slice a len cap] w fun e w' => ∃ a', e = .returned (.slice a' len len) ∧ Below w.heap.size w w' ∧
      Hid ((a' = none ∧ len = 0 ∧ w' = w) ∨ (a' = some ⟨w.heap.size, 0, none⟩ ∧ w'.heap[w.heap.size]? = some (.cells ((zs.take len).map (Value.int .u8)).toArray 5 (0, 0)))) := by
  rcases h with ⟨rfl, rfl, rfl, rfl⟩ | ⟨x, rfl, h1, h2, h3, h4, h5⟩
  · exact (clone_nil 0 0 w).mono fun e w' ⟨he, hw⟩ => ⟨none, he, hw ▸ Below.refl _ _, Or.inl ⟨rfl, rfl, hw⟩⟩
  · refine (clone_some x len cap (zs.take len) w (by simp; omega) h20 ?_).mono fun e w' ⟨he, hb, hr⟩ => ⟨_, he, hb, Or.inr ⟨rfl, hr⟩⟩
    exact fun i v hv => IsRow.cells h4 i v hv
end Go.Proofs.Qxb6601629a
