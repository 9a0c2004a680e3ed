import Derived.Test.Qxb6601629aSetOps
import Derived.Test.Qxb6601629aEq
namespace Go.Proofs.Qxb6601629a
open Go.ChangeShapes Go.WideShapes Go.ChangeAt Go.RowKit
set_option linter.unusedVariables false

/-- A bool came back. -/
def IsBool (e : Ending) : Prop := e = .returned (.bool true) ∨ e = .returned (.bool false)

theorem bytes12_zero (a : Option Addr) (c : Nat) (w : World) :
    Calls Try.prog 12 #[.slice a 0 c] w fun e w' => IsBool e ∧ w' = w := by
  go_enter Try.func12, Try.ntmps12
  go_wp2
  go_loop [4] (fun i => i = .int .i64 0) (fun _ => 0)
  case atStart => rfl
  case round =>
    subst hrel
    go_wp2
    go_ret
    exact ⟨by first | exact Or.inl rfl | exact Or.inr rfl, rfl⟩

set_option maxHeartbeats 400000 in
theorem bytes12_pos (b off len cap : Nat) (A : Nat → Option Addr) (L C : Nat → Nat) (w : World) (hc : ∀ r, r < len → w.cell? ⟨b, off + r, none⟩ = some (.slice (A r) (L r) (C r))) :
    Calls Try.prog 12 #[.slice (some ⟨b, off, none⟩) len cap] w fun e w' => IsBool e ∧ w' = w := by
  have HC : Hid (∀ r, r < len → w.cell? ⟨b, off + r, none⟩ = some (.slice (A r) (L r) (C r))) := hc
  clear hc
  by_cases h20 : (len : Int) ≤ 1048576
  · go_enter Try.func12, Try.ntmps12
    go_wp2
    go_loop [3, 4] (fun t i => ∃ (k : Nat) (n : Int), k ≤ len ∧ i = .int .i64 k ∧ t = .int .i64 n ∧ 0 ≤ n ∧ n ≤ 1048576) (fun _ i => len - (intOf i).toNat)
    case atStart => exact ⟨0, len, Nat.zero_le _, rfl, rfl, by omega, h20⟩
    case round =>
      obtain ⟨k, n, hk, rfl, rfl, hn0, hn1⟩ := hrel
      by_cases hlt : k < len
      · have hck := HC.out k hlt
        have hlti : (k : Int) < (len : Int) := by omega
        by_cases hL : (L k : Int) ≤ 1048576
        · by_cases hs : n + (L k : Int) ≤ 1048576
          · go_wp2
            go_round
            case rel => exact ⟨k + 1, _, by omega, by go_num, rfl, by omega, by omega⟩
            case measure => simp [intOf]; omega
          · go_wp2
            go_ret
            exact ⟨by first | exact Or.inl rfl | exact Or.inr rfl, rfl⟩
        · go_wp2
          go_ret
          exact ⟨by first | exact Or.inl rfl | exact Or.inr rfl, rfl⟩
      · go_wp2
        go_ret
        exact ⟨by first | exact Or.inl rfl | exact Or.inr rfl, rfl⟩
  · go_enter Try.func12, Try.ntmps12
    go_wp2
    go_ret
    exact ⟨by first | exact Or.inl rfl | exact Or.inr rfl, rfl⟩

/-- Sixteen nil slices. -/
def nil16 : List Value := [Value.slice none 0 0, Value.slice none 0 0, Value.slice none 0 0, Value.slice none 0 0, Value.slice none 0 0, Value.slice none 0 0, Value.slice none 0 0, Value.slice none 0 0, Value.slice none 0 0, Value.slice none 0 0, Value.slice none 0 0, Value.slice none 0 0, Value.slice none 0 0, Value.slice none 0 0, Value.slice none 0 0, Value.slice none 0 0]

theorem St.start {w : World} {b : Nat} (h : w.heap[b]? = some (.cells (nil16 ++ [Value.int .i64 0, Value.map none]).toArray 44 (0, 0))) : St w b [] 16 :=
  ⟨fun y hy => absurd hy (by simp), nil16, 0, none, rfl, h, Or.inl ⟨rfl, rfl, Nat.zero_le _, fun i z hz => by simp at hz⟩⟩

/-- A row of bytes of the call's own in a block above g. -/
def OwnN (w : World) (g : Nat) (a : Option Addr) (z : List Int) : Prop :=
  (a = none ∧ z = []) ∨ ∃ h, a = some ⟨h, 0, none⟩ ∧ g < h ∧ h < w.heap.size ∧ w.heap[h]? = some (.cells (z.map (Value.int .u8)).toArray 5 (0, 0))

theorem OwnN.ownB {w : World} {g : Nat} {a : Option Addr} {z : List Int} (h : OwnN w g a z) : OwnB w w.heap.size a z := by
  rcases h with h | ⟨x, h1, h2, h3, h4⟩
  · exact .inl h
  · exact .inr ⟨x, h1, h3, h4⟩

theorem OwnN.later {w w' : World} {g : Nat} {a : Option Addr} {z : List Int} (h : OwnN w g a z) (hb : Below w.heap.size w w') : OwnN w' g a z := by
  rcases h with h | ⟨x, h1, h2, h3, h4⟩
  · exact .inl h
  · exact .inr ⟨x, h1, h2, Nat.lt_of_lt_of_le h3 hb.size, (hb.block x h3).trans h4⟩

theorem OwnN.set {w : World} {g k : Nat} {a : Option Addr} {z : List Int} (h : OwnN w g a z) (v : Value) : OwnN (w.setCell ⟨g, k, none⟩ v) g a z := by
  rcases h with h | ⟨x, h1, h2, h3, h4⟩
  · exact .inl h
  · refine .inr ⟨x, h1, h2, by simpa [World.setCell] using h3, ?_⟩
    rw [Below.heap_setCell _ _ _ _ (by show x ≠ g; omega)]
    exact h4

/-- The copy of the names after k rounds: block g (the first new one), its first k cells the clones. -/
structure Cp (w wr : World) (g len k : Nat) (L : Nat → Nat) (Z : Nat → List Int) : Prop where
  below : Below g w wr
  lt : g < wr.heap.size
  cells : ∀ r, r < len → ∃ v, wr.cell? ⟨g, r, none⟩ = some v
  free : ∀ r, wr.frozen? ⟨g, r, none⟩ = false
  done : ∀ r, r < k → ∃ a, wr.cell? ⟨g, r, none⟩ = some (.slice a (L r) (L r)) ∧ OwnN wr g a (Z r)

theorem Cp.start (w : World) (len : Nat) (L : Nat → Nat) (Z : Nat → List Int) : Cp w (w.alloc (.cells (madeCells #[.slice none 0 0] len) 22)) w.heap.size len 0 L Z where
  below := (Below.refl _ _).alloc (Nat.le_refl _) _
  lt := by simp
  cells := fun r hr => ⟨_, by unfold World.cell?; rw [blk_new]; simpa using made_get _ len r hr⟩
  free := frozen_none (blk_new _ _)
  done := fun r hr => absurd hr (by omega)

theorem Cp.step {w wr w1 : World} {g len k : Nat} {L : Nat → Nat} {Z : Nat → List Int} {a : Option Addr} (c : Cp w wr g len k L Z) (hk : k < len) (hb : Below wr.heap.size wr w1)
    (hr : (a = none ∧ L k = 0 ∧ w1 = wr) ∨ (a = some ⟨wr.heap.size, 0, none⟩ ∧ w1.heap[wr.heap.size]? = some (.cells ((Z k).map (Value.int .u8)).toArray 5 (0, 0)))) (hL : (Z k).length = L k) :
    Cp w (w1.setCell ⟨g, k, none⟩ (.slice a (L k) (L k))) g len (k + 1) L Z where
  below := (c.below.trans (hb.mono (Nat.le_of_lt c.lt))).setCell (Nat.le_refl _) _
  lt := by have := c.lt; have := hb.size; simp [World.setCell]; omega
  cells := fun r hr' => by
    obtain ⟨v, hv⟩ := c.cells r hr'
    obtain ⟨v', hv'⟩ := cell?_setCell_some (w := w1) (p := ⟨g, k, none⟩) (x := .slice a (L k) (L k)) (q := ⟨g, r, none⟩) (v := v) ((hb.cell (p := ⟨g, r, none⟩) c.lt).trans hv)
    exact ⟨v', hv'⟩
  free := fun r => by
    rw [World.frozen?_setCell]
    exact (hb.frozen (p := ⟨g, r, none⟩) c.lt).trans (c.free r)
  done := fun r hr' => by
    by_cases e : r = k
    · subst e
      obtain ⟨v, hv⟩ := c.cells r hk
      refine ⟨a, cell_set_eq ((hb.cell (p := ⟨g, r, none⟩) c.lt).trans hv), OwnN.set ?_ _⟩
      rcases hr with ⟨h1, h2, _⟩ | ⟨h1, h2⟩
      · exact .inl ⟨h1, List.eq_nil_of_length_eq_zero (hL.trans h2)⟩
      · exact .inr ⟨_, h1, c.lt, (Array.getElem?_eq_some_iff.1 h2).1, h2⟩
    · obtain ⟨a', h1, h2⟩ := c.done r (by omega)
      exact ⟨a', (cell_set_ne (fun h => e h.symm)).trans ((hb.cell (p := ⟨g, r, none⟩) c.lt).trans h1), (h2.later hb).set _⟩

/-- The names as the law reads them later: cells of block g, each a clone below B. -/
def NamesAt (w : World) (B g len : Nat) (L : Nat → Nat) (Z : Nat → List Int) : Prop :=
  g < B ∧ ∀ r, r < len → Byt (Z r) ∧ (Z r).length = L r ∧ ∃ a, w.cell? ⟨g, r, none⟩ = some (.slice a (L r) (L r)) ∧ OwnB w B a (Z r)

theorem NamesAt.later {w w' : World} {B g len : Nat} {L : Nat → Nat} {Z : Nat → List Int} (h : NamesAt w B g len L Z) (hb : Below B w w') : NamesAt w' B g len L Z := by
  refine ⟨h.1, fun r hr => ?_⟩
  obtain ⟨h1, h2, a, h3, h4⟩ := h.2 r hr
  exact ⟨h1, h2, a, (hb.cell (p := ⟨g, r, none⟩) h.1).trans h3, h4.later hb⟩

/-- The names in the order of their first occurrence. -/
def firsts (Z : Nat → List Int) : Nat → List (List Int)
  | 0 => []
  | k + 1 => if Z k ∈ firsts Z k then firsts Z k else firsts Z k ++ [Z k]

theorem mem_firsts (Z : Nat → List Int) (z : List Int) : ∀ k, z ∈ firsts Z k ↔ ∃ r, r < k ∧ Z r = z
  | 0 => by simp [firsts]
  | k + 1 => by
    have ih := mem_firsts Z z k
    unfold firsts
    split
    · rename_i h
      rw [ih]
      constructor
      · rintro ⟨r, hr, e⟩; exact ⟨r, by omega, e⟩
      · rintro ⟨r, hr, e⟩
        by_cases hk : r = k
        · subst hk; rw [← ih, ← e]; exact h
        · exact ⟨r, by omega, e⟩
    · rw [List.mem_append, ih, List.mem_singleton]
      constructor
      · rintro (⟨r, hr, e⟩ | e)
        · exact ⟨r, by omega, e⟩
        · exact ⟨k, by omega, e.symm⟩
      · rintro ⟨r, hr, e⟩
        by_cases hk : r = k
        · subst hk; exact Or.inr e.symm
        · exact Or.inl ⟨r, by omega, e⟩

theorem IsRow.byt {w : World} {a : Option Addr} {len cap : Nat} {zs : List Int} (h : IsRow .u8 w a len cap zs) (hl : len ≤ 1048576) : Byt (zs.take len) ∧ (zs.take len).length = len := by
  rcases h with ⟨_, h1, _, h2⟩ | ⟨x, h0, h1, h2, h3, h4, h5⟩
  · subst h2 h1; exact ⟨⟨by simp, by simp⟩, rfl⟩
  · have e : (zs.take len).length = len := by simp; omega
    refine ⟨⟨by omega, fun n hn => ?_⟩, e⟩
    have := bounds_u8 (h5 n (List.mem_of_mem_take hn))
    omega
end Go.Proofs.Qxb6601629a
