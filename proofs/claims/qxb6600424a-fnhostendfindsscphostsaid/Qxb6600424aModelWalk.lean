import Derived.Test.Qxb6600424aHostWalk
namespace Go.Proofs.Qxb6600424a
open Go.ChangeShapes Go.WideShapes Go.ChangeAt Go.RowKit
set_option linter.unusedVariables false

theorem host7 (s : ByteArray) (w : World) (hs : s.size ≤ maxLen) :
    Calls Try.prog 7 #[.string s] w fun e w' => HostRes s e ∧ ∃ p, w' = w.iter s p := by
  have H : Hid (Calls Try.prog 13 #[.string s] w fun e w' => HostRes s e ∧ ∃ p, w' = w.iter s p) := host13 s w hs
  go_enter Try.func7, Try.ntmps7
  go_wp2_with fail
  refine H.out.mono ?_
  rintro e w' ⟨⟨r, rfl, hr⟩, p, rfl⟩
  go_wp2
  go_ret
  exact ⟨⟨r, rfl, hr⟩, p, rfl⟩

/-- A range over a string lays its iterator: nothing that was there turns. -/
theorem grown_iter {W w : World} (h : Grown W w) (s : ByteArray) (p : Nat) : Grown W (w.iter s p) := by
  refine ⟨World.keptBut_trans h.1 (World.keptBut_alloc _ _ _), fun a => ?_, Nat.le_trans h.2.2 (by show w.heap.size ≤ (w.heap.push _).size; simp)⟩
  rw [← h.2.1 a]
  by_cases e : a.block = w.heap.size
  · unfold World.frozen?
    rw [e, World.iter_heap, Array.getElem?_eq_none (Nat.le_refl _)]
  · refine World.frozen?_of_block (w := w) ?_
    show (w.heap.push (Obj.stringIter s p))[a.block]? = _
    rw [Array.getElem?_push, if_neg e]

theorem tn {c d : UInt8} (h : c = d) : ((c.toNat : Int) == (d.toNat : Int)) = true := by rw [h]; simp
theorem fn {c d : UInt8} (h : ¬ c = d) : ((c.toNat : Int) == (d.toNat : Int)) = false := by
  rw [beq_eq_false_iff_ne]; intro e; exact h (UInt8.toNat_inj.1 (by omega))

set_option maxHeartbeats 400000 in
theorem inBr14 (s : ByteArray) (j : Nat) (w : World) (hj : j ≤ s.size) (hs : s.size ≤ 1048576) :
    Calls Try.prog 14 #[.string s, .int .i64 j] w fun e w' => e = .returned (.bool (br s.data.toList j)) ∧ w' = w := by
  go_enter Try.func14, Try.ntmps14
  go_wp2
  go_loop [5] (fun i => ∃ k : Nat, k ≤ j ∧ i = .int .i64 ((k : Int) - 1) ∧ br s.data.toList j = br s.data.toList k) (fun i => (intOf i + 1).toNat)
  case atStart => exact ⟨j, Nat.le_refl _, rfl, rfl⟩
  case round =>
    obtain ⟨k, hk, rfl, hb⟩ := hrel
    have HB : Hid (br s.data.toList j = br s.data.toList k) := hb
    clear hb
    cases k with
    | zero =>
      go_wp2
      go_ret
      exact ⟨by rw [HB.out]; rfl, rfl⟩
    | succ m =>
      have e1 : ((m + 1 : Nat) : Int) - 1 = (m : Int) := by omega
      rw [e1]
      have hlt : m < s.size := by omega
      have hlti : (m : Int) < (s.size : Int) := by omega
      have hc := byte_at s m hlt
      generalize hcc : s[m]'hlt = c at hc
      have HC : Hid (s.data.toList[m]? = some c) := hc
      clear hc e1
      by_cases h91 : c = 91
      · have t91 : ((c.toNat : Int) == 91) = true := tn h91
        have HR : Hid (br s.data.toList j = true) := HB.out.trans (br_open (by rw [HC.out, h91]))
        clear h91
        go_wp2
        go_ret
        exact ⟨by rw [HR.out]; rfl, rfl⟩
      have t91 : ((c.toNat : Int) == 91) = false := fn (d := 91) h91
      by_cases h93 : c = 93
      · have t93 : ((c.toNat : Int) == 93) = true := tn h93
        have HR : Hid (br s.data.toList j = false) := HB.out.trans (br_shut (by rw [HC.out, h93]))
        clear h91 h93
        go_wp2
        go_ret
        exact ⟨by rw [HR.out]; rfl, rfl⟩
      have t93 : ((c.toNat : Int) == 93) = false := fn (d := 93) h93
      have HR : Hid (br s.data.toList j = br s.data.toList m) := HB.out.trans (br_same HC.out h91 h93)
      clear h91 h93
      go_wp2
      go_round
      case rel => exact ⟨m, by omega, rfl, HR.out⟩
      case measure => simp [intOf]

set_option maxHeartbeats 1000000 in
theorem model8 (s : ByteArray) (w : World) (hs : s.size ≤ 1048576) :
    Calls Try.prog 8 #[.string s] w fun e w' => HostRes s e ∧ w' = w := by
  go_enter Try.func8, Try.ntmps8
  go_wp2
  go_loop [3] (fun i => ∃ j : Nat, j ≤ s.size ∧ i = .int .i64 j ∧ ∀ i, i < j → ¬ Stop s.data.toList i) (fun i => s.size - (intOf i).toNat)
  case atStart => exact ⟨0, Nat.zero_le _, rfl, fun i hi => absurd hi (by omega)⟩
  case round =>
    obtain ⟨j, hj, rfl, hno⟩ := hrel
    have HNO : Hid (∀ i, i < j → ¬ Stop s.data.toList i) := hno
    clear hno
    by_cases hlt : j < s.size
    · have hlti : (j : Int) < (s.size : Int) := by omega
      have hc := byte_at s j hlt
      generalize hcc : s[j]'hlt = c at hc
      have HC : Hid (s.data.toList[j]? = some c) := hc
      clear hc
      have step : (¬ Stop s.data.toList j) → Hid (∀ i, i < j + 1 → ¬ Stop s.data.toList i) := by
        intro h i hi
        by_cases e : i = j
        · subst e; exact h
        · exact HNO.out i (by omega)
      have HI : Hid (Calls Try.prog 14 #[.string s, .int .i64 j] w fun e w' => e = .returned (.bool (br s.data.toList j)) ∧ w' = w) := inBr14 s j w (by omega) hs
      by_cases h58 : c = 58
      · have t58 : ((c.toNat : Int) == 58) = true := tn h58
        cases hb : br s.data.toList j with
        | true =>
          rw [hb] at HI
          have HST := step (not_stop_in hb)
          clear h58 step hb
          go_wp2_with (go_at_call 14; refine HI.out.mono ?_; rintro e w' ⟨rfl, rfl⟩)
          go_round
          case rel => exact ⟨j + 1, by omega, by go_num, HST.out⟩
          case measure => simp [intOf]; omega
        | false =>
          rw [hb] at HI
          have HRES : Hid (Res s.data.toList j) := Or.inl ⟨j, ⟨Or.inl (by rw [HC.out, h58]), hb⟩, HNO.out, by rw [if_pos (by rw [HC.out, h58])]⟩
          clear h58 step hb
          go_wp2_with (go_at_call 14; refine HI.out.mono ?_; rintro e w' ⟨rfl, rfl⟩)
          go_ret
          exact ⟨⟨j, rfl, HRES.out⟩, rfl⟩
      have t58 : ((c.toNat : Int) == 58) = false := fn (d := 58) h58
      by_cases h47 : c = 47
      · have t47 : ((c.toNat : Int) == 47) = true := tn h47
        cases hb : br s.data.toList j with
        | true =>
          rw [hb] at HI
          have HST := step (not_stop_in hb)
          clear h58 h47 step hb
          go_wp2_with (go_at_call 14; refine HI.out.mono ?_; rintro e w' ⟨rfl, rfl⟩)
          go_round
          case rel => exact ⟨j + 1, by omega, by go_num, HST.out⟩
          case measure => simp [intOf]; omega
        | false =>
          rw [hb] at HI
          have HRES : Hid (Res s.data.toList (-1)) := Or.inl ⟨j, ⟨Or.inr (by rw [HC.out, h47]), hb⟩, HNO.out, by rw [if_neg (by rw [HC.out, h47]; decide)]⟩
          clear h58 h47 step hb
          go_wp2_with (go_at_call 14; refine HI.out.mono ?_; rintro e w' ⟨rfl, rfl⟩)
          go_ret
          exact ⟨⟨-1, rfl, HRES.out⟩, rfl⟩
      have t47 : ((c.toNat : Int) == 47) = false := fn (d := 47) h47
      have HST := step (not_stop HC.out h58 h47)
      clear h58 h47 step HI
      go_wp2
      go_round
      case rel => exact ⟨j + 1, by omega, by go_num, HST.out⟩
      case measure => simp [intOf]; omega
    · have HRES : Hid (Res s.data.toList (-1)) := Or.inr ⟨fun i => by
        by_cases h : i < j
        · exact HNO.out i h
        · exact not_stop_end (by simp; omega), rfl⟩
      go_wp2
      go_ret
      exact ⟨⟨-1, rfl, HRES.out⟩, rfl⟩

theorem bytes6 (s : ByteArray) (w : World) (hs : s.size ≤ maxLen) :
    Calls Try.prog 6 #[.string s] w fun e w' => e = .returned (.bool (decide (s.size ≤ 1048576))) ∧ w' = w := by
  unfold maxLen at hs
  by_cases h : s.size ≤ 1048576
  · rw [decide_eq_true h]
    go_enter Try.func6, Try.ntmps6
    go_wp2
    go_ret
    exact ⟨rfl, rfl⟩
  · rw [decide_eq_false h]
    go_enter Try.func6, Try.ntmps6
    go_wp2
    go_ret
    exact ⟨rfl, rfl⟩

set_option maxHeartbeats 400000 in
theorem match_any (s : ByteArray) (hs : s.size ≤ maxLen) (w : World) :
    Calls Try.prog 3 #[.string s] w fun e w' => e = .returned (.bool true) ∧ Grown w w' := by
  have HB : Hid (Calls Try.prog 6 #[.string s] w fun e w' => e = .returned (.bool (decide (s.size ≤ 1048576))) ∧ w' = w) := bytes6 s w hs
  by_cases h20 : s.size ≤ 1048576
  · rw [decide_eq_true h20] at HB
    by_cases h12 : s.size ≤ 4096
    · have H7 : Hid (Calls Try.prog 7 #[.string s] w fun e w' => HostRes s e ∧ ∃ p, w' = w.iter s p) := host7 s w hs
      go_enter Try.func3, Try.ntmps3
      go_wp2_with fail
      refine HB.out.mono ?_
      rintro e w' ⟨rfl, hw'⟩
      subst w'
      go_wp2_with fail
      refine H7.out.mono ?_
      rintro e W ⟨⟨r, rfl, hr⟩, p, rfl⟩
      go_wp2_with fail
      refine (model8 s (w.iter s p) h20).mono ?_
      rintro e w' ⟨⟨r', rfl, hr'⟩, hw'⟩
      subst w'
      have e := hr.unique hr'
      subst e
      have hg : Grown w (w.iter s p) := grown_iter (Grown.refl _) s p
      clear hr hr'
      go_wp2
      go_ret
      exact ⟨by simp, hg⟩
    · go_enter Try.func3, Try.ntmps3
      go_wp2_with fail
      refine HB.out.mono ?_
      rintro e w' ⟨rfl, hw'⟩
      subst w'
      go_wp2
      go_ret
      exact ⟨rfl, Grown.refl _⟩
  · rw [decide_eq_false h20] at HB
    go_enter Try.func3, Try.ntmps3
    go_wp2_with fail
    refine HB.out.mono ?_
    rintro e w' ⟨rfl, hw'⟩
    subst w'
    go_wp2
    go_ret
    exact ⟨rfl, Grown.refl _⟩
end Go.Proofs.Qxb6600424a
