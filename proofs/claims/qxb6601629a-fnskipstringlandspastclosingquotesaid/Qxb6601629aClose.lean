import Derived.Test.Qxb6601629aSkip
namespace Go.Proofs.Qxb6601629a
open Go.ChangeShapes Go.WideShapes Go.ChangeAt Go.RowKit
set_option linter.unusedVariables false

/-- The run of backslashes right before place j, counted back no further than p + 1. -/
def back (D : List Int) (p : Nat) : Nat → Nat
  | 0 => 0
  | j + 1 => if p < j ∧ D[j]? = some 92 then back D p j + 1 else 0

/-- A quote that follows an even run of backslashes. -/
def Closing (D : List Int) (p j : Nat) : Prop := D[j]? = some 34 ∧ back D p j % 2 = 0

theorem back_yes {D : List Int} {p j : Nat} (h : p < j) (hj : D[j]? = some 92) : back D p (j + 1) = back D p j + 1 := by
  show (if p < j ∧ D[j]? = some 92 then back D p j + 1 else 0) = _
  rw [if_pos ⟨h, hj⟩]
theorem back_no {D : List Int} {p j : Nat} (h : ¬ (p < j ∧ D[j]? = some 92)) : back D p (j + 1) = 0 := by
  show (if p < j ∧ D[j]? = some 92 then back D p j + 1 else 0) = _
  rw [if_neg h]

/-- THE PLAIN LAW: the scan comes to the first closing quote. -/
theorem runs_closing (D : List Int) (p j : Nat) (hc : Closing D p j) (hmin : ∀ i, p < i → i < j → ¬ Closing D p i) : ∀ (n q : Nat), j - q ≤ n → p < q → q ≤ j → back D p q % 2 = 0 → ∃ f, Runs D f q j
  | n, q, hn, hp, hq, he => by
    by_cases hqj : q = j
    · subst hqj; exact ⟨0, rfl, hc.1⟩
    · have hjl := (List.getElem?_eq_some_iff.1 hc.1).1
      have hql : q < D.length := by omega
      obtain ⟨c, hcq⟩ : ∃ c, D[q]? = some c := ⟨_, List.getElem?_eq_getElem hql⟩
      have h34 : c ≠ 34 := fun e => hmin q hp (by omega) ⟨by rw [hcq, e], he⟩
      match n, hn with
      | 0, hn => omega
      | n + 1, hn =>
        by_cases h92 : c = 92
        · have hb1 : back D p (q + 1) = back D p q + 1 := back_yes hp (by rw [hcq, h92])
          have hq2 : q + 2 ≤ j := by
            rcases Nat.lt_or_ge (q + 1) j with h | h
            · omega
            · have e : q + 1 = j := by omega
              have h2 := hc.2
              rw [← e, hb1] at h2
              omega
          have he2 : back D p (q + 2) % 2 = 0 := by
            by_cases h : D[q + 1]? = some 92
            · rw [back_yes (by omega) h, hb1]; omega
            · rw [back_no (fun x => h x.2)]
          obtain ⟨f, hf⟩ := runs_closing D p j hc hmin n (q + 2) (by omega) (by omega) hq2 he2
          exact ⟨f + 1, c, hcq, h34, by rw [if_pos h92]; exact hf⟩
        · have he1 : back D p (q + 1) % 2 = 0 := by
            rw [back_no (fun x => h92 (by have := x.2; rw [hcq] at this; exact Option.some.inj this))]
          obtain ⟨f, hf⟩ := runs_closing D p j hc hmin n (q + 1) (by omega) (by omega) (by omega) he1
          exact ⟨f + 1, c, hcq, h34, by rw [if_neg h92]; exact hf⟩

/-- What zzClosingQuoteB1 answers. -/
def CloseRes (D : List Int) (p len : Nat) (e : Ending) : Prop :=
  e = .returned (.int .i64 (-1)) ∨ ∃ j : Nat, e = .returned (.int .i64 j) ∧ p < j ∧ j < len ∧ Closing D p j ∧ ∀ i, p < i → i < j → ¬ Closing D p i

set_option maxHeartbeats 1000000 in
theorem close18 (b off len cap p : Nat) (D : List Int) (w : World) (hD : ∀ i x, D[i]? = some x → w.cell? ⟨b, off + i, none⟩ = some (.int .u8 x)) (hl : D.length = len) (hl20 : len ≤ 1048576) (hp : p < len) :
    Calls Try.prog 18 #[.slice (some ⟨b, off, none⟩) len cap, .int .i64 p] w fun e w' => CloseRes D p len e ∧ w' = w := by
  have HD : Hid (∀ i x, D[i]? = some x → w.cell? ⟨b, off + i, none⟩ = some (.int .u8 x)) := hD
  have HL : Hid (D.length = len) := hl
  clear hD hl
  go_enter Try.func18, Try.ntmps18
  go_wp2
  go_loop [5] (fun i => ∃ q : Nat, p < q ∧ q ≤ len ∧ i = .int .i64 q ∧ ∀ i, p < i → i < q → ¬ Closing D p i) (fun i => len - (intOf i).toNat)
  case atStart => exact ⟨p + 1, by omega, by omega, by go_num, fun i h1 h2 => by omega⟩
  case round =>
    obtain ⟨q, hpq, hq, rfl, hno⟩ := hrel
    have HNO : Hid (∀ i, p < i → i < q → ¬ Closing D p i) := hno
    clear hno
    by_cases hlt : q < len
    · obtain ⟨x, hx⟩ : ∃ x, D[q]? = some x := ⟨_, List.getElem?_eq_getElem (by have := HL.out; omega)⟩
      have hcq := HD.out q x hx
      have HX : Hid (D[q]? = some x) := hx
      clear hx
      have hlti : (q : Int) < (len : Int) := by omega
      by_cases h34 : x = 34
      · have hb34 : (x != 34) = false := by simp [h34]
        have H34 : Hid (x = 34) := h34
        clear h34
        go_wp2_with fail
        go_loop [6, 7] (fun t i => ∃ r k : Nat, k + r + 1 = q ∧ p ≤ k ∧ t = .int .i64 r ∧ i = .int .i64 k ∧ back D p q = r + back D p (k + 1)) (fun _ i => (intOf i).toNat)
        case atStart => exact ⟨0, q - 1, by omega, by omega, rfl, by go_num, by rw [Nat.zero_add, Nat.sub_add_cancel (by omega)]⟩
        case round =>
          obtain ⟨r, k, hkr, hpk, rfl, rfl, hbk⟩ := hrel
          have HBK : Hid (back D p q = r + back D p (k + 1)) := hbk
          have hr0 : (r : Int) ≤ 1048576 := by omega
          have HKR : Hid (k + r + 1 = q) := hkr
          clear hbk
          by_cases hk : p < k
          · have hki : (p : Int) < (k : Int) := by omega
            have hkl : (k : Int) < (len : Int) := by omega
            clear hkr
            obtain ⟨y, hy⟩ : ∃ y, D[k]? = some y := ⟨_, List.getElem?_eq_getElem (by have := HL.out; omega)⟩
            have hck := HD.out k y hy
            by_cases h92 : y = 92
            · have HB : Hid (back D p (k + 1) = back D p k + 1) := back_yes hk (by rw [hy, h92])
              have hb92 : (y == 92) = true := by simp [h92]
              clear h92 hy
              go_wp2
              go_round
              case rel => exact ⟨r + 1, k - 1, by have := HKR.out; omega, by omega, by go_num, by go_num, by rw [HBK.out, HB.out, Nat.sub_add_cancel (by omega)]; omega⟩
              case measure => simp [intOf]; omega
            · have hz : back D p (k + 1) = 0 := back_no (fun h => h92 (by have := h.2; rw [hy] at this; exact Option.some.inj this))
              have hb92 : (y == 92) = false := by simp [h92]
              clear h92 hy
              have HBQ : Hid (back D p q = r) := by show _ = _; rw [HBK.out, hz, Nat.add_zero]
              clear hz
              by_cases hev : r % 2 = 0
              · have hb2 : ((r : Int) % 2 == 0) = true := by rw [beq_iff_eq]; omega
                have HC : Hid (Closing D p q) := ⟨by rw [HX.out, H34.out], by rw [HBQ.out]; exact hev⟩
                clear hev
                go_wp2
                go_ret
                exact ⟨Or.inr ⟨q, rfl, hpq, hlt, HC.out, HNO.out⟩, rfl⟩
              · have hb2 : ((r : Int) % 2 == 0) = false := by rw [beq_eq_false_iff_ne]; omega
                have HN : Hid (¬ Closing D p q) := fun h => hev (by have := h.2; rw [HBQ.out] at this; exact this)
                clear hev
                go_wp2
                go_round
                case rel =>
                  refine ⟨q + 1, by omega, by omega, by go_num, fun i h1 h2 => ?_⟩
                  by_cases e : i = q
                  · subst e; exact HN.out
                  · exact HNO.out i h1 (by omega)
                case measure => simp [intOf]; omega
          · have hz : back D p (k + 1) = 0 := back_no (fun h => hk h.1)
            have hki : ¬ (p : Int) < (k : Int) := by omega
            clear hkr
            have HBQ : Hid (back D p q = r) := by show _ = _; rw [HBK.out, hz, Nat.add_zero]
            clear hz
            by_cases hev : r % 2 = 0
            · have hb2 : ((r : Int) % 2 == 0) = true := by rw [beq_iff_eq]; omega
              have HC : Hid (Closing D p q) := ⟨by rw [HX.out, H34.out], by rw [HBQ.out]; exact hev⟩
              clear hev
              go_wp2
              go_ret
              exact ⟨Or.inr ⟨q, rfl, hpq, hlt, HC.out, HNO.out⟩, rfl⟩
            · have hb2 : ((r : Int) % 2 == 0) = false := by rw [beq_eq_false_iff_ne]; omega
              have HN : Hid (¬ Closing D p q) := fun h => hev (by have := h.2; rw [HBQ.out] at this; exact this)
              clear hev
              go_wp2
              go_round
              case rel =>
                refine ⟨q + 1, by omega, by omega, by go_num, fun i h1 h2 => ?_⟩
                by_cases e : i = q
                · subst e; exact HN.out
                · exact HNO.out i h1 (by omega)
              case measure => simp [intOf]; omega
      · have hb34 : (x != 34) = true := by rw [bne_iff_ne]; exact h34
        have HN : Hid (¬ Closing D p q) := by
          intro h; have := h.1; rw [HX.out] at this; exact h34 (Option.some.inj this)
        clear h34
        go_wp2
        go_round
        case rel =>
          refine ⟨q + 1, by omega, by omega, by go_num, fun i h1 h2 => ?_⟩
          by_cases e : i = q
          · subst e; exact HN.out
          · exact HNO.out i h1 (by omega)
        case measure => simp [intOf]; omega
    · go_wp2
      go_ret
      exact ⟨Or.inl rfl, rfl⟩
end Go.Proofs.Qxb6601629a
