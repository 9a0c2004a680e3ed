import Derived.Test.Qxb6601629aSetFull
namespace Go.Proofs.Qxb6601629a
open Go.ChangeShapes Go.WideShapes Go.ChangeAt Go.RowKit
set_option linter.unusedVariables false

theorem many_yes (b mb K : Nat) (S : List (List Int)) (a : Option Addr) (z : List Int) (l : Nat) (w : World) (hl : z.length = l) (hS : ∀ y ∈ S, Byt y)
    (hm : w.cell? ⟨b, 17, none⟩ = some (.map (some mb))) (hown : OwnsSet w mb K S) (ho : OwnB w b a z) (hz : Byt z) (hin : z ∈ S) :
    Calls Try.prog 26 #[.pointer (some ⟨b, 0, none⟩), .slice a l l] w fun e w' => e = .returned (.bool false) ∧ w' = w.drew := by
  have q42 : ∀ (w : World) (r : Option Nat), (binOp .eql 42 (.map r) (.map none)).run Try.prog w = .ok (.bool r.isNone) w := fun w r => run_eql_map_nil w _ _ _ r Try.underlying42
  have hcv : (convert 22 9 (.slice a l l)).run Try.prog w.drew = .ok (.string (strOfNums z)) w.drew := OwnB.conv (w := w.drew) ho _ _ hl
  have hlk := set_lookup (w := w.drew) hown hS hz
  rw [decide_eq_true hin] at hlk
  go_enter Try.func26, Try.ntmps26
  go_wp2_with fail
  go_region
  go_wp2
  go_ret
  exact ⟨rfl, rfl⟩

theorem many_no (b mb K : Nat) (S : List (List Int)) (a : Option Addr) (z : List Int) (l : Nat) (w : World) (hl : z.length = l) (hS : ∀ y ∈ S, Byt y) (hK : K < maxLen) (hbm : b < mb)
    (hm : w.cell? ⟨b, 17, none⟩ = some (.map (some mb))) (hown : OwnsSet w mb K S) (ho : OwnB w b a z) (hz : Byt z) (hin : z ∉ S) :
    Calls Try.prog 26 #[.pointer (some ⟨b, 0, none⟩), .slice a l l] w fun e w' => e = .returned (.bool true) ∧ Below b w w' ∧ OwnsSet w' mb (K + 1) (S ++ [z]) ∧ w'.heap[b]? = w.heap[b]? := by
  have q42 : ∀ (w : World) (r : Option Nat), (binOp .eql 42 (.map r) (.map none)).run Try.prog w = .ok (.bool r.isNone) w := fun w r => run_eql_map_nil w _ _ _ r Try.underlying42
  have hcv : (convert 22 9 (.slice a l l)).run Try.prog w.drew = .ok (.string (strOfNums z)) w.drew := OwnB.conv (w := w.drew) ho _ _ hl
  have hcv2 : (convert 22 9 (.slice a l l)).run Try.prog w.drew.drew = .ok (.string (strOfNums z)) w.drew.drew := OwnB.conv (w := w.drew.drew) ho _ _ hl
  have hlk := set_lookup (w := w.drew) hown hS hz
  rw [decide_eq_false hin] at hlk
  have hmb := hown.lt
  obtain ⟨w1, hup, hown1, hg1⟩ := set_update (w := w.drew.drew) hown hK hz
  have hbel1 : Below b w w1 := (Below.refl b w).drew.drew.grown hg1 (by exact Nat.le_of_lt (Nat.lt_trans hbm hmb)) (fun k hk => by cases hk; exact Nat.le_of_lt hbm)
  have HB1 : Hid (w1.heap[b]? = w.heap[b]?) := hg1.block b (by exact Nat.lt_trans hbm hmb) (by intro e; cases e; omega)
  have HR : Hid (OwnsSet w1 mb (K + 1) (S ++ [z])) := hown1
  clear hown1 hg1
  go_enter Try.func26, Try.ntmps26
  go_wp2_with fail
  go_region
  go_wp2_with fail
  go_region
  go_wp2
  go_ret
  exact ⟨rfl, hbel1, HR.out, HB1.out⟩

/-- THE STATE OF A NAME SET IN BLOCK b: it holds the names S (in the order in which they came, repeats and all). -/
def St (w : World) (b : Nat) (S : List (List Int)) (K : Nat) : Prop :=
  (∀ y ∈ S, Byt y) ∧ ∃ (F : List Value) (n : Int) (m : Option Nat), F.length = 16 ∧ w.heap[b]? = some (.cells (F ++ [Value.int .i64 n, Value.map m]).toArray 44 (0, 0)) ∧
    ((m = none ∧ n = S.length ∧ S.length ≤ 16 ∧ ∀ (i : Nat) (z : List Int), S[i]? = some z → ∃ a, F[i]? = some (Value.slice a z.length z.length) ∧ OwnB w b a z) ∨
     (∃ mb, m = some mb ∧ b < mb ∧ OwnsSet w mb K S))

theorem frozen_none {w : World} {b : Nat} {C : Array Value} {t : TypeId} (h : w.heap[b]? = some (.cells C t (0, 0))) (i : Nat) : w.frozen? ⟨b, i, none⟩ = false := by
  unfold World.frozen?
  simp [h]

theorem heap_set_list {w : World} {b i : Nat} {v : Value} {L : List Value} {t : TypeId} {f : Nat × Nat} (h : w.heap[b]? = some (.cells L.toArray t f)) : (w.setCell ⟨b, i, none⟩ v).heap[b]? = some (.cells (L.set i v).toArray t f) := by
  simp only [World.setCell, Array.getElem?_modify, ↓reduceIte, h, Option.map_some]
  simp

/-- ADD, WHATEVER THE STATE. -/
theorem add26 (b : Nat) (S : List (List Int)) (K : Nat) (a : Option Addr) (z : List Int) (l : Nat) (w : World) (hl : z.length = l) (hs : St w b S K) (hK : K < maxLen) (hK17 : 16 ≤ K) (ho : OwnB w b a z) (hz : Byt z) :
    Calls Try.prog 26 #[.pointer (some ⟨b, 0, none⟩), .slice a l l] w fun e w' => e = .returned (.bool (decide (z ∉ S))) ∧ Below b w w' ∧ St w' b (if z ∈ S then S else S ++ [z]) (K + 1) := by
  obtain ⟨hS, F, n, m, hF, hb, hst⟩ := hs
  have hbw : b < w.heap.size := (Array.getElem?_eq_some_iff.1 hb).1
  have hc : ∀ j v, (F ++ [Value.int .i64 n, .map m])[j]? = some v → w.cell? ⟨b, j, none⟩ = some v := fun j v hv => own_cell hb hv
  have hcF : ∀ j v, F[j]? = some v → w.cell? ⟨b, j, none⟩ = some v := by
    intro j v hv
    have hj := (List.getElem?_eq_some_iff.1 hv).1
    exact hc j v (by rw [List.getElem?_append_left hj]; exact hv)
  have hn : w.cell? ⟨b, 16, none⟩ = some (.int .i64 n) := hc 16 _ (by rw [List.getElem?_append_right (by omega), hF]; rfl)
  have hm : w.cell? ⟨b, 17, none⟩ = some (.map m) := hc 17 _ (by rw [List.getElem?_append_right (by omega), hF]; rfl)
  have hfn : ∀ i, w.frozen? ⟨b, i, none⟩ = false := frozen_none hb
  have hdr : ∀ q, Below b w (w.drewN q) := fun q => ⟨rfl, rfl, rfl, Nat.le_refl _, fun _ _ => rfl⟩
  rcases hst with ⟨rfl, rfl, h16, hfew⟩ | ⟨mb, rfl, hbm, hown⟩
  · have hf : Few w b S := by
      intro i y hy
      obtain ⟨ay, h1, h2⟩ := hfew i y hy
      exact ⟨hS y (List.mem_of_getElem? hy), ay, hcF i _ h1, h2⟩
    by_cases hin : z ∈ S
    · refine (add_found b S a z l w hl h16 hf hn hm ho hz hin).mono ?_
      rintro e w' ⟨rfl, q, rfl⟩
      refine ⟨by simp [hin], hdr q, ?_⟩
      rw [if_pos hin]
      exact ⟨hS, F, _, none, hF, hb, Or.inl ⟨rfl, rfl, h16, fun i y hy => hfew i y hy⟩⟩
    · have hS' : ∀ y ∈ S ++ [z], Byt y := by
        intro y hy
        rcases List.mem_append.1 hy with h | h
        · exact hS y h
        · rw [List.mem_singleton.1 h]; exact hz
      by_cases hlt : S.length < 16
      · have hv0 := hcF S.length _ (List.getElem?_eq_getElem (by omega))
        refine (add_room b S a z l w hl hlt hf hn hm ho hz hin hfn _ hv0).mono ?_
        rintro e w' ⟨rfl, q, rfl⟩
        refine ⟨by simp [hin], ((hdr q).setCell (p := ⟨b, S.length, none⟩) (Nat.le_refl _) _).setCell (p := ⟨b, 16, none⟩) (Nat.le_refl _) _, ?_⟩
        rw [if_neg hin]
        have hb1 := heap_set_list (i := 16) (v := Value.int .i64 ((S.length : Int) + 1)) (heap_set_list (w := w.drewN q) (i := S.length) (v := Value.slice a l l) hb)
        rw [List.set_append_left _ _ (by omega), List.set_append_right _ _ (by simp; omega)] at hb1
        simp only [List.length_set, hF, Nat.sub_self, List.set_cons_zero] at hb1
        refine ⟨hS', F.set S.length (.slice a l l), _, none, by simp [hF], hb1, Or.inl ⟨rfl, by simp, by simp; omega, ?_⟩⟩
        have hbel : Below b w (((w.drewN q).setCell ⟨b, S.length, none⟩ (.slice a l l)).setCell ⟨b, 16, none⟩ (.int .i64 ((S.length : Int) + 1))) := ((hdr q).setCell (p := ⟨b, S.length, none⟩) (Nat.le_refl _) _).setCell (p := ⟨b, 16, none⟩) (Nat.le_refl _) _
        intro i y hy
        by_cases hi : i < S.length
        · rw [List.getElem?_append_left hi] at hy
          obtain ⟨ay, h1, h2⟩ := hfew i y hy
          exact ⟨ay, by rw [List.getElem?_set_ne (by omega)]; exact h1, h2.later hbel⟩
        · rw [List.getElem?_append_right (by omega)] at hy
          have hi' : i - S.length = 0 := by
            rcases Nat.eq_zero_or_pos (i - S.length) with h | h
            · exact h
            · rw [List.getElem?_eq_none (by simp; omega)] at hy; cases hy
          rw [hi'] at hy
          have hy' : z = y := by simpa using hy
          have hi2 : i = S.length := by omega
          subst hy' hi2
          exact ⟨a, by rw [List.getElem?_set_self (by omega), hl], ho.later hbel⟩
      · have he : S.length = 16 := by omega
        rw [he] at hn
        refine (add_full b S F a z l w hl he hf hF hcF hn hm ho hz hin hfn hbw).mono ?_
        rintro e w' ⟨rfl, hbel, hown, hblk⟩
        refine ⟨by simp [hin], hbel, ?_⟩
        rw [if_neg hin]
        have hb1 := heap_set_list (i := 17) (v := Value.map (some w.heap.size)) hb
        rw [List.set_append_right _ _ (by omega), hF] at hb1
        exact ⟨hS', F, _, _, hF, hblk.trans hb1, Or.inr ⟨_, rfl, hbw, hown.mono (by omega)⟩⟩
  · by_cases hin : z ∈ S
    · refine (many_yes b mb K S a z l w hl hS hm hown ho hz hin).mono ?_
      rintro e w' ⟨rfl, rfl⟩
      refine ⟨by simp [hin], (Below.refl _ _).drew, ?_⟩
      rw [if_pos hin]
      exact ⟨hS, F, n, _, hF, hb, Or.inr ⟨mb, rfl, hbm, hown.drew.mono (Nat.le_succ _)⟩⟩
    · refine (many_no b mb K S a z l w hl hS hK hbm hm hown ho hz hin).mono ?_
      rintro e w' ⟨rfl, hbel, hown1, hblk⟩
      refine ⟨by simp [hin], hbel, ?_⟩
      rw [if_neg hin]
      refine ⟨?_, F, n, _, hF, hblk.trans hb, Or.inr ⟨mb, rfl, hbm, hown1⟩⟩
      intro y hy
      rcases List.mem_append.1 hy with h | h
      · exact hS y h
      · rw [List.mem_singleton.1 h]; exact hz
end Go.Proofs.Qxb6601629a
