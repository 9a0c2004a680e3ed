import Derived.Test.Qxb6601629aSkip
namespace Go.Proofs.Qxb6601629a
open Go.ChangeShapes Go.WideShapes Go.ChangeAt Go.RowKit
set_option linter.unusedVariables false

/-- The hexadecimal digit of a number below 16. -/
def hexd (k : Int) : Int := if k < 10 then 48 + k else 87 + k

/-- What the quoter writes for a byte. -/
def enc1 (c : Int) : List Int := if c = 34 ∨ c = 92 then [92, c] else if c < 32 then [92, 117, 48, 48, hexd (c / 16), hexd (c % 16)] else [c]
def encs (Z : List Int) : List Int := Z.flatMap enc1

theorem enc1_len (c : Int) : 1 ≤ (enc1 c).length ∧ (enc1 c).length ≤ 6 := by
  unfold enc1; split
  · simp
  · split <;> simp

theorem encs_len (Z : List Int) : (encs Z).length ≤ 6 * Z.length := by
  induction Z with
  | nil => simp [encs]
  | cons c Z ih =>
    have := enc1_len c
    simp only [encs, List.flatMap_cons, List.length_append, List.length_cons] at ih ⊢
    omega

theorem encs_snoc (Z : List Int) (k : Nat) (c : Int) (h : Z[k]? = some c) : encs (Z.take (k + 1)) = encs (Z.take k) ++ enc1 c := by
  rw [List.take_add_one, h]; simp [encs]

theorem encs_append (A B : List Int) : encs (A ++ B) = encs A ++ encs B := by simp [encs]
theorem encs_take_len (Z : List Int) (k : Nat) : (encs (Z.take k)).length ≤ (encs Z).length := by
  have h : encs Z = encs (Z.take k) ++ encs (Z.drop k) := by rw [← encs_append, List.take_append_drop]
  rw [h, List.length_append]; omega

theorem drop_step {D t : List Int} {p : Nat} {c : Int} (h : D.drop p = c :: t) : D[p]? = some c ∧ D.drop (p + 1) = t := by
  have h1 : D[p]? = some c := by
    have := congrArg (fun l => l[0]?) h
    simpa using this
  refine ⟨h1, ?_⟩
  have : D.drop (p + 1) = (D.drop p).drop 1 := by rw [List.drop_drop]
  rw [this, h]; rfl

theorem runs_one {D t : List Int} {p f e : Nat} {c : Int} (h : D.drop p = c :: t) (h34 : c ≠ 34) (h92 : c ≠ 92) (hr : Runs D f (p + 1) e) : Runs D (f + 1) p e :=
  ⟨c, (drop_step h).1, h34, by rw [if_neg h92]; exact hr⟩
theorem runs_two {D t : List Int} {p f e : Nat} (h : D.drop p = 92 :: t) (hr : Runs D f (p + 2) e) : Runs D (f + 1) p e :=
  ⟨92, (drop_step h).1, by omega, by rw [if_pos rfl]; exact hr⟩

/-- What the quoter wrote is passed up to its closing quote. -/
theorem runs_encs (D S : List Int) : ∀ (Z : List Int) (p : Nat), (∀ c ∈ Z, 0 ≤ c ∧ c ≤ 255) → D.drop p = encs Z ++ 34 :: S → ∃ f, Runs D f p (p + (encs Z).length)
  | [], p, _, h => ⟨0, rfl, (drop_step h).1⟩
  | c :: Z, p, hb, h => by
    have hc := hb c (by simp)
    have hb' : ∀ c ∈ Z, 0 ≤ c ∧ c ≤ 255 := fun x hx => hb x (by simp [hx])
    have e1 : encs (c :: Z) = enc1 c ++ encs Z := by simp [encs]
    rw [e1, List.append_assoc] at h
    rw [e1, List.length_append]
    by_cases h1 : c = 34 ∨ c = 92
    · have e2 : enc1 c = [92, c] := by unfold enc1; rw [if_pos h1]
      rw [e2] at h ⊢
      have s1 := drop_step h
      have s2 := drop_step s1.2
      obtain ⟨f, hf⟩ := runs_encs D S Z (p + 2) hb' s2.2
      exact ⟨f + 1, runs_two h (by rw [show p + ([92, c].length + (encs Z).length) = p + 2 + (encs Z).length by simp; omega]; exact hf)⟩
    · by_cases h2 : c < 32
      · have e2 : enc1 c = [92, 117, 48, 48, hexd (c / 16), hexd (c % 16)] := by unfold enc1; rw [if_neg h1, if_pos h2]
        rw [e2] at h ⊢
        have s1 := drop_step h
        have s2 := drop_step s1.2
        have s3 := drop_step s2.2
        have s4 := drop_step s3.2
        have s5 := drop_step s4.2
        have s6 := drop_step s5.2
        obtain ⟨f, hf⟩ := runs_encs D S Z (p + 1 + 1 + 1 + 1 + 1 + 1) hb' s6.2
        have hh : ∀ k : Int, 0 ≤ k → k < 16 → hexd k ≠ 34 ∧ hexd k ≠ 92 := by intro k h0 h16; unfold hexd; split <;> omega
        have ha := hh (c / 16) (by omega) (by omega)
        have hb2 := hh (c % 16) (by omega) (by omega)
        rw [show p + ([92, 117, 48, 48, hexd (c / 16), hexd (c % 16)].length + (encs Z).length) = p + 1 + 1 + 1 + 1 + 1 + 1 + (encs Z).length by simp; omega]
        exact ⟨_, runs_two h (runs_one s2.2 (by omega) (by omega) (runs_one s3.2 (by omega) (by omega) (runs_one s4.2 ha.1 ha.2 (runs_one s5.2 hb2.1 hb2.2 hf))))⟩
      · have e2 : enc1 c = [c] := by unfold enc1; rw [if_neg h1, if_neg h2]
        rw [e2] at h ⊢
        have s1 := drop_step h
        obtain ⟨f, hf⟩ := runs_encs D S Z (p + 1) hb' s1.2
        rw [show p + ([c].length + (encs Z).length) = p + 1 + (encs Z).length by simp; omega]
        exact ⟨_, runs_one h (fun e => h1 (Or.inl e)) (fun e => h1 (Or.inr e)) hf⟩

/-- Block g holds the bytes 'pre' (p of them), then m zeros. -/
def Lay (w : World) (g : Nat) (pre : List Int) (p m : Nat) : Prop := pre.length = p ∧ w.heap[g]? = some (.cells ((pre ++ List.replicate m 0).map (Value.int .u8)).toArray 5 (0, 0))

theorem Lay.start (w : World) (n : Nat) : Lay (w.alloc (.cells (madeCells #[.int .u8 0] n) 5)) w.heap.size [] 0 n := by
  refine ⟨rfl, ?_⟩
  rw [blk_new]
  have : madeCells #[.int .u8 0] n = (([] ++ List.replicate n (0 : Int)).map (Value.int .u8)).toArray := by
    apply Array.ext'
    rw [toList_madeCells_one]; simp
  rw [this]

theorem Lay.cell {w : World} {g p m : Nat} {pre : List Int} (h : Lay w g pre p m) (i : Nat) (hi : i < m) : w.cell? ⟨g, p + i, none⟩ = some (.int .u8 0) := by
  refine own_cell h.2 ?_
  rw [List.getElem?_map, List.getElem?_append_right (by have := h.1; omega), List.getElem?_replicate, if_pos (by have := h.1; omega)]
  rfl

theorem Lay.free {w : World} {g p m : Nat} {pre : List Int} (h : Lay w g pre p m) (i : Nat) : w.frozen? ⟨g, i, none⟩ = false := by
  unfold World.frozen?
  simp [h.2]

theorem Lay.set {w : World} {g p m : Nat} {pre : List Int} (h : Lay w g pre p (m + 1)) (v : Int) : Lay (w.setCell ⟨g, p, none⟩ (.int .u8 v)) g (pre ++ [v]) (p + 1) m := by
  refine ⟨by have := h.1; simp; omega, ?_⟩
  have h1 := h.1
  have h2 : (w.setCell ⟨g, p, none⟩ (.int .u8 v)).heap[g]? = some (.cells (((pre ++ List.replicate (m + 1) 0).map (Value.int .u8)).set p (.int .u8 v)).toArray 5 (0, 0)) := by
    simp only [World.setCell, Array.getElem?_modify, ↓reduceIte, h.2, Option.map_some]
    simp
  rw [h2, ← List.map_set, List.set_append_right _ _ (by omega), h1, Nat.sub_self, List.replicate_succ, List.set_cons_zero]
  simp

/-- The quoter's table of digits. -/
theorem hex_eq (k : Int) (h0 : 0 ≤ k) (h16 : k < 16) (hp : k.toNat < ({ data := #[48, 49, 50, 51, 52, 53, 54, 55, 56, 57, 97, 98, 99, 100, 101, 102] } : ByteArray).size) :
    ((({ data := #[48, 49, 50, 51, 52, 53, 54, 55, 56, 57, 97, 98, 99, 100, 101, 102] } : ByteArray)[k.toNat]'hp).toNat : Int) = hexd k := by
  have key : ∀ n : Fin 16, ((({ data := #[48, 49, 50, 51, 52, 53, 54, 55, 56, 57, 97, 98, 99, 100, 101, 102] } : ByteArray)[n.val]'n.isLt).toNat : Int) = hexd (n.val : Int) := by decide
  have h := key ⟨k.toNat, by omega⟩
  have e : ((k.toNat : Nat) : Int) = k := Int.toNat_of_nonneg h0
  simp only at h
  rw [h, e]

theorem lay6 {w : World} {g p m : Nat} {pre : List Int} (h : Lay w g pre p (m + 6)) (a b c d e f : Int) :
    Lay ((((((w.setCell ⟨g, p, none⟩ (.int .u8 a)).setCell ⟨g, p + 1, none⟩ (.int .u8 b)).setCell ⟨g, p + 2, none⟩ (.int .u8 c)).setCell ⟨g, p + 3, none⟩ (.int .u8 d)).setCell ⟨g, p + 4, none⟩ (.int .u8 e)).setCell ⟨g, p + 5, none⟩ (.int .u8 f)) g (pre ++ [a, b, c, d, e, f]) (p + 6) m := by
  have h6 := (((((h.set (m := m + 5) a).set (m := m + 4) b).set (m := m + 3) c).set (m := m + 2) d).set (m := m + 1) e).set (m := m) f
  simp only [List.append_assoc, List.cons_append, List.nil_append] at h6
  exact h6
theorem lay2 {w : World} {g p m : Nat} {pre : List Int} (h : Lay w g pre p (m + 2)) (a b : Int) :
    Lay ((w.setCell ⟨g, p, none⟩ (.int .u8 a)).setCell ⟨g, p + 1, none⟩ (.int .u8 b)) g (pre ++ [a, b]) (p + 2) m := by
  have h2 := (h.set (m := m + 1) a).set (m := m) b
  simp only [List.append_assoc, List.cons_append, List.nil_append] at h2
  exact h2
end Go.Proofs.Qxb6601629a
