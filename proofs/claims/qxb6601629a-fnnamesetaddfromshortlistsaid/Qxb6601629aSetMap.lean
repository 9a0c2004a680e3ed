import Derived.Test.Qxb6601629aSet
namespace Go.Proofs.Qxb6601629a
open Go.ChangeShapes Go.WideShapes Go.ChangeAt Go.RowKit Go.WideMaps
set_option linter.unusedVariables false

theorem run_make42 (w : World) : (Instr.makeMap 42 (some (.int .i64 32))).run Try.prog w = .ok (.map (some w.heap.size)) (w.alloc (.map #[] 0)) := by
  simp only [Instr.makeMap, Sem.run_bind, run_underlying Try.underlying42]
  rfl

theorem Try.info31 : (Try.prog.info? 31).map (·.size) = some 16 := by kernel_rfl
theorem Try.info22s : (Try.prog.info? 22).map (·.size) = some 1 := by kernel_rfl

/-- An array read whole out of the head of a block. -/
theorem run_load31 (w : World) (g : Nat) (F : List Value) (hF : F.length = 16) (h : ∀ j v, F[j]? = some v → w.cell? ⟨g, j, none⟩ = some v) : (loadVar 31 ⟨g, 0, none⟩).run Try.prog w = .ok (.agg F.toArray) w := by
  have hl : (loadCells ⟨g, 0, none⟩ F.length).run Try.prog w = .ok F.toArray w :=
    run_loadCells_list (P := Try.prog) w ⟨g, 0, none⟩ F (fun j v hv => by
      have hadd : (⟨g, 0, none⟩ : Addr).add j = ⟨g, j, none⟩ := by unfold Addr.add; split <;> simp_all
      rw [hadd]; exact h j v hv)
  have hagg : (isAgg 31).run Try.prog w = .ok true w := by
    unfold isAgg
    rw [Sem.run_bind, run_underlying Try.underlying31 w]
    rfl
  cases hq : Try.prog.info? 31 with
  | none => have := Try.info31; simp [hq] at this
  | some i =>
    have hs : i.size = 16 := by have := Try.info31; simpa [hq] using this
    rw [hF] at hl
    simp [loadVar, Sem.run_bind, hagg, sizeOf, typeInfo, hq, hs, hl]

theorem wpList_load31 {w : World} {ops : Array Oper} {rest : List Oper} {o : Oper} {a : Act} {Q : Exit → Act → World → Prop} (hgd : o.guard = none) (x : Operand) (ho : o.op = .load 31 x)
    (g : Nat) (hx : a.eval x = .pointer (some ⟨g, 0, none⟩)) (F : List Value) (hF : F.length = 16) (hc : ∀ j v, F[j]? = some v → w.cell? ⟨g, j, none⟩ = some v)
    (h : wpList Try.prog ops Q rest (a.put o.dst (.agg F.toArray)) w) : wpList Try.prog ops Q (o :: rest) a w := by
  refine wpList_plain hgd fun _ hK => ?_
  unfold Oper.wp execOp
  simp only [ho, hx, Instr.loadAt, Instr.sureAddr, Sem.run_bind, Sem.run_pure, Result.andThen_ok, run_load31 w g F hF hc]
  exact hK _ _ h

theorem run_index31 (w : World) (F : List Value) (k : Nat) (v : Value) (hk : k < 16) (hv : F[k]? = some v) : (Instr.index 31 (.agg F.toArray) (.int .i64 (k : Int))).run Try.prog w = .ok v w := by
  have hagg : (isAgg 22).run Try.prog w = .ok false w := by
    unfold isAgg
    rw [Sem.run_bind, run_underlying Try.underlying22 w]
    rfl
  cases hq : Try.prog.info? 22 with
  | none => have := Try.info22s; simp [hq] at this
  | some i =>
    have hs : i.size = 1 := by have := Try.info22s; simpa [hq] using this
    have h1 : (0 : Int) ≤ (k : Int) ∧ (k : Int) < 16 := by omega
    have h2 : (k : Int) < 16 := h1.2
    simp only [Instr.index, asIntOf, Sem.run_bind, Sem.run_pure, Result.andThen_ok, run_underlying Try.underlying31, part, sizeOf, typeInfo]
    simp [h2, hq, hs, hv]

/-- The key that a name reads as. -/
def kl (z : List Int) : Lit := .string (strOfNums z).data.toList
theorem kl_inj {z y : List Int} (hz : Byt z) (hy : Byt y) (h : kl z = kl y) : z = y := by
  unfold kl at h
  exact strOfNums_inj hz.2 hy.2 (Lit.string.inj h)
theorem keyOf_name {z : List Int} (hz : Byt z) : keyOf Try.prog 9 (.string (strOfNums z)) = some (kl z) :=
  WideMaps.keyOf_string_mk Try.underlying9 (by rw [strOfNums_size]; have := hz.1; unfold maxLen; omega)
theorem law9 : Maps.Keyed Try.prog 9 := Maps.string_keyed Try.underlying9
theorem zero4 (w : World) : (zeroValue 4).run Try.prog w = .ok (.bool false) w := by kernel_rfl

/-- The set of names as the map reads. -/
def setD (S : List (List Int)) : DataW Unit := Maps.setOf (.lit (.bool true)) (S.map kl)
abbrev OwnsSet (w : World) (mb K : Nat) (S : List (List Int)) : Prop := w.ownsMap (H := Unit) Try.prog 9 (plainElem Try.prog 4) mb K (setD S)

theorem atKey_in (k : Lit) (d u : DataW Unit) : ∀ (L : List Lit) (m : DataW Unit), Maps.IsMap m → (∀ x ∈ L, WideAt.IsKeyLit x) → (k ∈ L ∨ m.atKey k d = u) → (L.foldl (fun m x => m.put x u) m).atKey k d = u
  | [], m, _, _, h => by
    rcases h with h | h
    · cases h
    · exact h
  | x :: r, m, hm, hk, h => by
    rw [List.foldl_cons]
    refine atKey_in k d u r (m.put x u) (hm.put x u) (fun y hy => hk y (by simp [hy])) ?_
    by_cases e : k = x
    · subst e; exact Or.inr (Maps.atKey_put_same hm (hk k (by simp)) u d)
    · rcases h with h | h
      · rcases List.mem_cons.1 h with h | h
        · exact absurd h e
        · exact Or.inl h
      · exact Or.inr ((Maps.atKey_put_other e u d).trans h)

theorem keys_kl (S : List (List Int)) : ∀ x ∈ S.map kl, WideAt.IsKeyLit x := by
  intro x hx
  simp only [List.mem_map] at hx
  obtain ⟨y, _, rfl⟩ := hx
  trivial

theorem atKey_yes {S : List (List Int)} {k : Lit} (d : DataW Unit) (h : k ∈ S.map kl) : (setD S).atKey k d = .lit (.bool true) :=
  atKey_in k d _ _ _ Maps.isMap_empty (keys_kl S) (Or.inl h)

theorem atKey_no {S : List (List Int)} {k : Lit} (d : DataW Unit) (h : k ∉ S.map kl) : (setD S).atKey k d = d := by
  refine Maps.atKey_of_not_has ?_ d
  unfold setD
  rw [Maps.has_setOf _ _ _ (keys_kl S), List.any_eq_false]
  intro x hx hs
  exact h (WideAt.sameKey_eq hs ▸ hx)

theorem mem_kl {S : List (List Int)} {z : List Int} (hS : ∀ y ∈ S, Byt y) (hz : Byt z) : kl z ∈ S.map kl ↔ z ∈ S := by
  constructor
  · intro h
    simp only [List.mem_map] at h
    obtain ⟨y, hy, e⟩ := h
    rw [← kl_inj (hS y hy) hz e]; exact hy
  · exact fun h => List.mem_map_of_mem h

theorem plain_bool_inv {v : Value} {b : Bool} {ps : List MemPlace} (h : plainElem (H := Unit) Try.prog 4 v = some (.lit (.bool b), ps)) : v = .bool b := by
  unfold plainElem at h
  rw [Try.underlying4] at h
  cases v <;> simp at h
  rw [h.1]

theorem set_lookup {w : World} {mb K : Nat} {S : List (List Int)} {z : List Int} (h : OwnsSet w mb K S) (hS : ∀ y ∈ S, Byt y) (hz : Byt z) :
    (Instr.lookup 42 (.map (some mb)) (.string (strOfNums z)) false).run Try.prog w = .ok (.bool (decide (z ∈ S))) w := by
  obtain ⟨v, ps, hrun, hv⟩ := h.lookup law9 Try.underlying42 (zero4 w) (plainElem_bool Try.underlying4 false) (keyOf_name hz)
  have : v = .bool (decide (z ∈ S)) := by
    by_cases hm : z ∈ S
    · rw [atKey_yes _ ((mem_kl hS hz).2 hm)] at hv; rw [plain_bool_inv hv]; simp [hm]
    · rw [atKey_no _ (fun h => hm ((mem_kl hS hz).1 h))] at hv; rw [plain_bool_inv hv]; simp [hm]
  rw [this] at hrun
  exact hrun

theorem set_update {w : World} {mb K : Nat} {S : List (List Int)} {z : List Int} (h : OwnsSet w mb K S) (hK : K < maxLen) (hz : Byt z) :
    ∃ w', (Instr.mapUpdate 42 (.map (some mb)) (.string (strOfNums z)) (.bool true)).run Try.prog w = .ok () w' ∧ OwnsSet w' mb (K + 1) (S ++ [z]) ∧ w.grownBy w' (some mb) := by
  obtain ⟨w', hrun, ho, hg⟩ := h.update law9 Try.underlying42 hK (keyOf_name hz) (plainElem_bool Try.underlying4 true)
  refine ⟨w', hrun, ?_, hg⟩
  have e : setD (S ++ [z]) = (setD S).put (kl z) (.lit (.bool true)) := by
    unfold setD; rw [List.map_append, List.map_singleton, Maps.setOf_snoc]
  unfold OwnsSet; rw [e]; exact ho
end Go.Proofs.Qxb6601629a
