import Derived.Test.Qxb6601629aQuote
namespace Go.Proofs.Qxb6601629a
open Go.ChangeShapes Go.WideShapes Go.ChangeAt Go.RowKit
set_option linter.unusedVariables false

set_option maxHeartbeats 1000000 in
theorem quote24_zero (a : Option Addr) (c : Nat) (w : World) :
    Calls Try.prog 24 #[.slice a 0 c] w fun e w' => e = .returned (.slice (some ⟨w.heap.size, 0, none⟩) 2 2) ∧ Below w.heap.size w w' ∧
      Hid (w'.heap[w.heap.size]? = some (.cells ([34, 34].map (Value.int .u8)).toArray 5 (0, 0))) := by
  have hmk : ∀ w, (Instr.makeSlice 22 (.int .i64 2) (.int .i64 2)).run Try.prog w = .ok (.slice (some ⟨w.heap.size, 0, none⟩) 2 2) (w.alloc (.cells [.int .u8 0, .int .u8 0].toArray 5)) := by
    intro w
    have h := run_make_row' (P := Try.prog) 22 5 (.int .u8 0) 1 Try.underlying22 Try.info5 rfl .i64 .i64 2 (by omega) (by omega) w
    have e : madeCells #[.int .u8 0] 2 = [.int .u8 0, .int .u8 0].toArray := by apply Array.ext'; rw [toList_madeCells_one]; rfl
    rw [e] at h
    exact h
  go_enter Try.func24, Try.ntmps24
  go_wp2
  go_loop [3, 4] (fun t i => t = .int .i64 2 ∧ i = .int .i64 0) (fun _ _ => 0)
  case atStart => exact ⟨rfl, rfl⟩
  case round =>
    obtain ⟨rfl, rfl⟩ := hrel
    go_wp2_with fail
    go_loop [7, 8] (fun t i => t = .int .i64 1 ∧ i = .int .i64 0) (fun _ _ => 0)
    case atStart => exact ⟨rfl, rfl⟩
    case round =>
      obtain ⟨rfl, rfl⟩ := hrel
      go_wp2
      go_ret
      exact ⟨rfl, (Below.refl _ _).alloc (Nat.le_refl _) _, blk_new _ _⟩

theorem int_len {E L : List Int} {m : Int} (h : (L.length : Int) = m) : Value.int .i64 (↑E.length + 2 + m) = Value.int .i64 (↑(E ++ L).length + 2) := by
  rw [List.length_append, ← h]; congr 1; omega

theorem lay_first (w : World) (n : Nat) : Lay (w.alloc (.cells ((madeCells #[.int .u8 0] (n + 1)).setIfInBounds 0 (.int .u8 34)) 5)) w.heap.size [34] 1 n := by
  refine ⟨rfl, ?_⟩
  rw [blk_new]
  have : (madeCells #[.int .u8 0] (n + 1)).setIfInBounds 0 (.int .u8 34) = (([34] ++ List.replicate n (0 : Int)).map (Value.int .u8)).toArray := by
    apply Array.ext'
    rw [Array.toList_setIfInBounds, toList_madeCells_one, List.replicate_succ]; simp
  rw [this]

set_option maxRecDepth 20000 in
set_option maxHeartbeats 2000000 in
theorem quote24_pos (g l c : Nat) (Z : List Int) (w : World) (hZ : ∀ i x, Z[i]? = some x → w.cell? ⟨g, i, none⟩ = some (.int .u8 x)) (hg : g < w.heap.size) (hl : Z.length = l) (hb : ∀ x ∈ Z, 0 ≤ x ∧ x ≤ 255) (hl20 : l ≤ 1048576) :
    Calls Try.prog 24 #[.slice (some ⟨g, 0, none⟩) l c] w fun e w' => e = .returned (.slice (some ⟨w.heap.size, 0, none⟩) ((encs Z).length + 2) ((encs Z).length + 2)) ∧ Below w.heap.size w w' ∧
      Hid (w'.heap[w.heap.size]? = some (.cells ((34 :: (encs Z ++ [34])).map (Value.int .u8)).toArray 5 (0, 0))) := by
  have HZ : Hid (∀ i x, Z[i]? = some x → w.cell? ⟨g, i, none⟩ = some (.int .u8 x)) := hZ
  have HL : Hid (Z.length = l) := hl
  have HB : Hid (∀ x ∈ Z, 0 ≤ x ∧ x ≤ 255) := hb
  have hEl : (encs Z).length ≤ 6 * l := by rw [← hl]; exact encs_len Z
  clear hZ hl hb
  go_enter Try.func24, Try.ntmps24
  go_wp2
  go_loop [3, 4] (fun t i => ∃ k : Nat, k ≤ l ∧ i = .int .i64 k ∧ t = .int .i64 ((encs (Z.take k)).length + 2)) (fun _ i => l - (intOf i).toNat)
  case atStart => exact ⟨0, Nat.zero_le _, rfl, rfl⟩
  case round =>
    obtain ⟨k, hk, rfl, rfl⟩ := hrel
    have hTl := encs_take_len Z k
    by_cases hlt : k < l
    · obtain ⟨x, hx⟩ : ∃ x, Z[k]? = some x := ⟨_, List.getElem?_eq_getElem (by have := HL.out; omega)⟩
      have hck := HZ.out k x hx
      have hxb := HB.out x (List.mem_of_getElem? hx)
      have hlti : (k : Int) < (l : Int) := by omega
      have HS : Hid (encs (Z.take (k + 1)) = encs (Z.take k) ++ enc1 x) := encs_snoc Z k x hx
      clear hx
      generalize encs (Z.take k) = E at hTl HS ⊢
      by_cases h34 : x = 34
      · have HE : Hid (enc1 x = [92, x]) := by show _ = _; unfold enc1; rw [if_pos (Or.inl h34)]
        have hb34 : (x == 34) = true := by simp [h34]
        clear h34
        go_wp2
        go_round
        case rel => exact ⟨k + 1, by omega, by go_num, by rw [HS.out, HE.out]; exact int_len rfl⟩
        case measure => simp [intOf]; omega
      have hb34 : (x == 34) = false := by simp [h34]
      by_cases h92 : x = 92
      · have HE : Hid (enc1 x = [92, x]) := by show _ = _; unfold enc1; rw [if_pos (Or.inr h92)]
        have hb92 : (x == 92) = true := by simp [h92]
        clear h34 h92
        go_wp2
        go_round
        case rel => exact ⟨k + 1, by omega, by go_num, by rw [HS.out, HE.out]; exact int_len rfl⟩
        case measure => simp [intOf]; omega
      have hb92 : (x == 92) = false := by simp [h92]
      by_cases h32 : x < 32
      · have HE : Hid (enc1 x = [92, 117, 48, 48, hexd (x / 16), hexd (x % 16)]) := by show _ = _; unfold enc1; rw [if_neg (by omega), if_pos h32]
        clear h34 h92
        go_wp2
        go_round
        case rel => exact ⟨k + 1, by omega, by go_num, by rw [HS.out, HE.out]; exact int_len rfl⟩
        case measure => simp [intOf]; omega
      · have HE : Hid (enc1 x = [x]) := by show _ = _; unfold enc1; rw [if_neg (by omega), if_neg h32]
        clear h34 h92
        go_wp2
        go_round
        case rel => exact ⟨k + 1, by omega, by go_num, by rw [HS.out, HE.out]; exact int_len rfl⟩
        case measure => simp [intOf]; omega
    · have hke : k = l := by omega
      subst hke
      have hT : Z.take k = Z := List.take_of_length_le (by have := HL.out; omega)
      rw [hT]
      clear hT hTl
      obtain ⟨E, hE⟩ : ∃ E, E = (encs Z).length := ⟨_, rfl⟩
      rw [← hE] at hEl ⊢
      have HE : Hid (E = (encs Z).length) := hE
      clear hE
      have hmk : ∀ w, (Instr.makeSlice 22 (.int .i64 ((E : Int) + 2)) (.int .i64 ((E : Int) + 2))).run Try.prog w = .ok (.slice (some ⟨w.heap.size, 0, none⟩) (E + 2) (E + 2)) (w.alloc (.cells (madeCells #[.int .u8 0] (E + 2)) 5)) := fun w =>
        run_make_row' (P := Try.prog) 22 5 (.int .u8 0) 1 Try.underlying22 Try.info5 rfl .i64 .i64 (E + 2) (by omega) (by omega) w
      have hm0 : (madeCells #[.int .u8 0] (E + 2))[0]? = some (.int .u8 0) := made_get _ _ _ (by omega)
      go_wp2_with fail
      clear hm0 hmk
      go_loopw [7, 8] (fun t i wr => ∃ j P M : Nat, j ≤ k ∧ i = .int .i64 j ∧ t = .int .i64 P ∧ P = 1 + (encs (Z.take j)).length ∧ P + M = E + 2 ∧ Lay wr w.heap.size (34 :: encs (Z.take j)) P M ∧ Below w.heap.size w wr)
        (fun _ i _ => k - (intOf i).toNat)
      case atStart => exact ⟨0, 1, E + 1, Nat.zero_le _, rfl, rfl, rfl, by omega, lay_first w (E + 1), (Below.refl _ _).alloc (Nat.le_refl _) _⟩
      case round =>
        obtain ⟨j, P, M, hj, rfl, rfl, hP, hPM, hlay, hbel⟩ := hrel
        by_cases hlt : j < k
        · obtain ⟨x, hx⟩ : ∃ x, Z[j]? = some x := ⟨_, List.getElem?_eq_getElem (by have := HL.out; omega)⟩
          have hck : wr.cell? ⟨g, j, none⟩ = some (.int .u8 x) := (hbel.cell (p := ⟨g, j, none⟩) hg).trans (HZ.out j x hx)
          have hxb := HB.out x (List.mem_of_getElem? hx)
          have hlti : (j : Int) < (k : Int) := by omega
          have HS : Hid (encs (Z.take (j + 1)) = encs (Z.take j) ++ enc1 x) := encs_snoc Z j x hx
          have hTl := encs_take_len Z (j + 1)
          rw [HS.out, List.length_append, ← HE.out] at hTl
          clear hx
          generalize encs (Z.take j) = pre at hTl HS hP hlay ⊢
          have HP : Hid (P = 1 + pre.length) := hP
          by_cases h34 : x = 34 ∨ x = 92
          · have HX : Hid (enc1 x = [92, x]) := by show _ = _; unfold enc1; rw [if_pos h34]
            rw [HX.out] at hTl
            simp only [List.length_cons, List.length_nil] at hTl
            obtain ⟨M', hM'⟩ : ∃ M', M = M' + 2 := ⟨M - 2, by omega⟩
            subst hM'
            have c0 : wr.cell? ⟨w.heap.size, P, none⟩ = some (.int .u8 0) := hlay.cell 0 (by omega)
            have c1 := hlay.cell 1 (by omega)
            have hfr := hlay.free
            have i0 : (P : Int) < (E : Int) + 2 := by omega
            have i1 : (P : Int) + 1 < (E : Int) + 2 := by omega
            have HLAY : Hid (Lay wr w.heap.size (34 :: pre) P (M' + 2)) := hlay
            have HPM : Hid (P + (M' + 2) = E + 2) := hPM
            have hor : (x == 34) = true ∨ ((x == 34) = false ∧ (x == 92) = true) := by
              by_cases h : x = 34
              · left; simp [h]
              · right
                have : x = 92 := by omega
                exact ⟨by simp [h], by simp [this]⟩
            clear hlay h34 hP hPM hTl
            rcases hor with hb34 | ⟨hb34, hb92⟩
            all_goals
              go_wp2
              go_roundw
              case rel =>
                refine ⟨j + 1, P + 2, M', by omega, by go_num, by go_num, ?_, by have := HPM.out; omega, ?_, ?_⟩
                · rw [HS.out, HX.out, List.length_append, HP.out]; simp; omega
                · rw [HS.out, HX.out]; exact lay2 HLAY.out _ _
                · exact (hbel.setCell (by exact Nat.le_refl _) _).setCell (by exact Nat.le_refl _) _
              case measure => simp [intOf]; omega
          · by_cases h32 : x < 32
            · have HX : Hid (enc1 x = [92, 117, 48, 48, hexd (x / 16), hexd (x % 16)]) := by show _ = _; unfold enc1; rw [if_neg h34, if_pos h32]
              rw [HX.out] at hTl
              simp only [List.length_cons, List.length_nil] at hTl
              obtain ⟨M', hM'⟩ : ∃ M', M = M' + 6 := ⟨M - 6, by omega⟩
              subst hM'
              have hb34 : (x == 34) = false := by simp; omega
              have hb92 : (x == 92) = false := by simp; omega
              have c0 : wr.cell? ⟨w.heap.size, P, none⟩ = some (.int .u8 0) := hlay.cell 0 (by omega)
              have c1 := hlay.cell 1 (by omega)
              have c2 := hlay.cell 2 (by omega)
              have c3 := hlay.cell 3 (by omega)
              have c4 := hlay.cell 4 (by omega)
              have c5 := hlay.cell 5 (by omega)
              have hfr := hlay.free
              have i0 : (P : Int) < (E : Int) + 2 := by omega
              have i1 : (P : Int) + 1 < (E : Int) + 2 := by omega
              have i2 : (P : Int) + 2 < (E : Int) + 2 := by omega
              have i3 : (P : Int) + 3 < (E : Int) + 2 := by omega
              have i4 : (P : Int) + 4 < (E : Int) + 2 := by omega
              have i5 : (P : Int) + 5 < (E : Int) + 2 := by omega
              have HLAY : Hid (Lay wr w.heap.size (34 :: pre) P (M' + 6)) := hlay
              have HPM : Hid (P + (M' + 6) = E + 2) := hPM
              clear hlay h34 hP hPM hTl
              go_wp2
              go_roundw
              case rel =>
                rw [hex_eq (x / 16) (by omega) (by omega), hex_eq (x % 16) (by omega) (by omega)]
                refine ⟨j + 1, P + 6, M', by omega, by go_num, by go_num, ?_, by have := HPM.out; omega, ?_, ?_⟩
                · rw [HS.out, HX.out, List.length_append, HP.out]; simp; omega
                · rw [HS.out, HX.out]; exact lay6 HLAY.out _ _ _ _ _ _
                · exact (((((hbel.setCell (by exact Nat.le_refl _) _).setCell (by exact Nat.le_refl _) _).setCell (by exact Nat.le_refl _) _).setCell (by exact Nat.le_refl _) _).setCell (by exact Nat.le_refl _) _).setCell (by exact Nat.le_refl _) _
              case measure => simp [intOf]; omega
            · have HX : Hid (enc1 x = [x]) := by show _ = _; unfold enc1; rw [if_neg h34, if_neg h32]
              rw [HX.out] at hTl
              simp only [List.length_cons, List.length_nil] at hTl
              obtain ⟨M', hM'⟩ : ∃ M', M = M' + 1 := ⟨M - 1, by omega⟩
              subst hM'
              have hb34 : (x == 34) = false := by simp; omega
              have hb92 : (x == 92) = false := by simp; omega
              have c0 : wr.cell? ⟨w.heap.size, P, none⟩ = some (.int .u8 0) := hlay.cell 0 (by omega)
              have hfr := hlay.free
              have i0 : (P : Int) < (E : Int) + 2 := by omega
              have HLAY : Hid (Lay wr w.heap.size (34 :: pre) P (M' + 1)) := hlay
              have HPM : Hid (P + (M' + 1) = E + 2) := hPM
              clear hlay h34 hP hPM hTl
              go_wp2
              go_roundw
              case rel =>
                refine ⟨j + 1, P + 1, M', by omega, by go_num, by go_num, ?_, by have := HPM.out; omega, ?_, ?_⟩
                · rw [HS.out, HX.out, List.length_append, HP.out]; simp; omega
                · rw [HS.out, HX.out]; exact HLAY.out.set _
                · exact hbel.setCell (by exact Nat.le_refl _) _
              case measure => simp [intOf]; omega
        · have hje : j = k := by omega
          subst hje
          have hT : Z.take j = Z := List.take_of_length_le (by have := HL.out; omega)
          rw [hT] at hP hlay
          have hM : M = 1 := by have := HE.out; omega
          subst hM
          have c0 : wr.cell? ⟨w.heap.size, P, none⟩ = some (.int .u8 0) := hlay.cell 0 (by omega)
          have hfr := hlay.free
          have i0 : (P : Int) < (E : Int) + 2 := by omega
          have HF := (hlay.set (m := 0) 34).2
          have HF' : Hid ((wr.setCell ⟨w.heap.size, P, none⟩ (.int .u8 34)).heap[w.heap.size]? = some (.cells ((34 :: (encs Z ++ [34])).map (Value.int .u8)).toArray 5 (0, 0))) := by
            show _ = _
            rw [HF]; simp
          have hbel' : Below w.heap.size w (wr.setCell ⟨w.heap.size, P, none⟩ (.int .u8 34)) := hbel.setCell (by exact Nat.le_refl _) _
          clear hlay hP hPM hT HF
          go_wp2
          go_ret
          exact ⟨by rw [← HE.out]; rfl, hbel', HF'⟩

theorem quote24 (a : Option Addr) (l c B : Nat) (Z : List Int) (w : World) (ho : (a = none ∧ Z = []) ∨ ∃ g, a = some ⟨g, 0, none⟩ ∧ w.heap[g]? = some (.cells (Z.map (Value.int .u8)).toArray 5 (0, 0))) (hl : Z.length = l) (hb : ∀ x ∈ Z, 0 ≤ x ∧ x ≤ 255) (hl20 : l ≤ 1048576) :
    Calls Try.prog 24 #[.slice a l c] w fun e w' => e = .returned (.slice (some ⟨w.heap.size, 0, none⟩) ((encs Z).length + 2) ((encs Z).length + 2)) ∧ Below w.heap.size w w' ∧
      Hid (w'.heap[w.heap.size]? = some (.cells ((34 :: (encs Z ++ [34])).map (Value.int .u8)).toArray 5 (0, 0))) := by
  rcases ho with ⟨rfl, rfl⟩ | ⟨g, rfl, h⟩
  · subst hl; exact quote24_zero none c w
  · exact quote24_pos g l c Z w (fun i x hx => own_cell h (by rw [List.getElem?_map, hx]; rfl)) (Array.getElem?_eq_some_iff.1 h).1 hl hb hl20
end Go.Proofs.Qxb6601629a
