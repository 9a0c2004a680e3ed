import Derived.Test.Qxb6600424aModelWalk
namespace Go.Proofs.Qxb6600424a
open Go.ChangeShapes Go.WideShapes Go.ChangeAt Go.RowKit
set_option linter.unusedVariables false

/-! ### The plain law -/
/-- None of the four signs. -/
def Plain (L : List UInt8) : Prop := ∀ c ∈ L, c ≠ 58 ∧ c ≠ 47 ∧ c ≠ 91 ∧ c ≠ 93

theorem seg_plain (L : List UInt8) (a : Nat) : ∀ n, (∀ i, a ≤ i → i < a + n → ∃ c, L[i]? = some c ∧ c ≠ 58 ∧ c ≠ 47 ∧ c ≠ 91 ∧ c ≠ 93) → br L (a + n) = br L a ∧ ∀ i, a ≤ i → i < a + n → ¬ Stop L i
  | 0, _ => ⟨rfl, fun i h1 h2 => by omega⟩
  | n + 1, h => by
    obtain ⟨h1, h2⟩ := seg_plain L a n (fun i hi1 hi2 => h i hi1 (by omega))
    obtain ⟨c, hc, q1, q2, q3, q4⟩ := h (a + n) (by omega) (by omega)
    refine ⟨by rw [← Nat.add_assoc, br_same hc q3 q4, h1], fun i hi1 hi2 => ?_⟩
    by_cases e : i = a + n
    · subst e; exact not_stop hc q1 q2
    · exact h2 i hi1 (by omega)

theorem seg_in (L : List UInt8) (a : Nat) (ha : br L a = true) : ∀ n, (∀ i, a ≤ i → i < a + n → ∃ c, L[i]? = some c ∧ c ≠ 93) → br L (a + n) = true ∧ ∀ i, a ≤ i → i < a + n → ¬ Stop L i
  | 0, _ => ⟨ha, fun i h1 h2 => by omega⟩
  | n + 1, h => by
    obtain ⟨h1, h2⟩ := seg_in L a ha n (fun i hi1 hi2 => h i hi1 (by omega))
    obtain ⟨c, hc, q⟩ := h (a + n) (by omega) (by omega)
    refine ⟨?_, fun i hi1 hi2 => ?_⟩
    · rw [← Nat.add_assoc]
      by_cases e : c = 91
      · exact br_open (by rw [hc, e])
      · rw [br_same hc e q, h1]
    · by_cases e : i = a + n
      · subst e; exact not_stop_in h1
      · exact h2 i hi1 (by omega)

theorem res_at {L : List UInt8} {n : Nat} (h58 : L[n]? = some 58) (hb : br L n = false) (hno : ∀ i, i < n → ¬ Stop L i) : Res L n :=
  Or.inl ⟨n, ⟨Or.inl h58, hb⟩, hno, by rw [if_pos h58]⟩

theorem res_plain (P T : List UInt8) (hP : Plain P) : Res (P ++ 58 :: T) P.length := by
  obtain ⟨h1, h2⟩ := seg_plain (P ++ 58 :: T) 0 P.length (fun i _ hi => by
    have hi' : i < P.length := by omega
    exact ⟨P[i], by rw [List.getElem?_append_left hi', List.getElem?_eq_getElem hi'], hP _ (List.getElem_mem hi')⟩)
  rw [Nat.zero_add] at h1 h2
  exact res_at (by rw [List.getElem?_append_right (Nat.le_refl _), Nat.sub_self]; rfl) h1 (fun i hi => h2 i (Nat.zero_le _) hi)

theorem res_bracket (P X T : List UInt8) (hP : Plain P) (hX : (93 : UInt8) ∉ X) : Res (P ++ 91 :: (X ++ 93 :: 58 :: T)) ((P.length + (X.length + 2) : Nat) : Int) := by
  have gP : ∀ i, i < P.length → (P ++ 91 :: (X ++ 93 :: 58 :: T))[i]? = P[i]? := fun i hi => List.getElem?_append_left hi
  have g1 : ∀ k, (P ++ 91 :: (X ++ 93 :: 58 :: T))[P.length + k]? = (91 :: (X ++ 93 :: 58 :: T))[k]? := fun k => by
    rw [List.getElem?_append_right (by omega)]; congr 1; omega
  have g2 : ∀ k, k < X.length → (P ++ 91 :: (X ++ 93 :: 58 :: T))[P.length + 1 + k]? = X[k]? := fun k hk => by
    rw [show P.length + 1 + k = P.length + (k + 1) by omega, g1, List.getElem?_cons_succ, List.getElem?_append_left hk]
  have g3 : (P ++ 91 :: (X ++ 93 :: 58 :: T))[P.length + 1 + X.length]? = some 93 := by
    rw [show P.length + 1 + X.length = P.length + (X.length + 1) by omega, g1, List.getElem?_cons_succ, List.getElem?_append_right (Nat.le_refl _), Nat.sub_self]; rfl
  have g4 : (P ++ 91 :: (X ++ 93 :: 58 :: T))[P.length + 1 + X.length + 1]? = some 58 := by
    rw [show P.length + 1 + X.length + 1 = P.length + (X.length + 1 + 1) by omega, g1, List.getElem?_cons_succ, List.getElem?_append_right (by omega), show X.length + 1 - X.length = 1 by omega]; rfl
  generalize P ++ 91 :: (X ++ 93 :: 58 :: T) = L at gP g1 g2 g3 g4 ⊢
  obtain ⟨h1, h2⟩ := seg_plain L 0 P.length (fun i _ hi => by
    have hi' : i < P.length := by omega
    exact ⟨P[i], by rw [gP i hi', List.getElem?_eq_getElem hi'], hP _ (List.getElem_mem hi')⟩)
  rw [Nat.zero_add] at h1 h2
  have g0 : L[P.length]? = some 91 := by have := g1 0; rw [Nat.add_zero] at this; rw [this]; rfl
  obtain ⟨h3, h4⟩ := seg_in L (P.length + 1) (br_open g0) X.length (fun i hi1 hi2 => by
    have hk : i - (P.length + 1) < X.length := by omega
    have := g2 (i - (P.length + 1)) hk
    rw [show P.length + 1 + (i - (P.length + 1)) = i by omega, List.getElem?_eq_getElem hk] at this
    exact ⟨_, this, fun e => hX (by rw [← e]; exact List.getElem_mem hk)⟩)
  have e : P.length + (X.length + 2) = P.length + 1 + X.length + 1 := by omega
  rw [e]
  refine res_at g4 (br_shut g3) (fun i hi => ?_)
  by_cases c1 : i < P.length
  · exact h2 i (Nat.zero_le _) c1
  by_cases c2 : i = P.length
  · subst c2; exact not_stop g0 (by decide) (by decide)
  by_cases c3 : i < P.length + 1 + X.length
  · exact h4 i (by omega) c3
  · have : i = P.length + 1 + X.length := by omega
    subst this; exact not_stop g3 (by decide) (by decide)

/-! ### The contracts -/
/-- Does the byte stand in the list? -/
def hasB (L : List UInt8) (d : UInt8) : Bool := decide (d ∈ L)
theorem hasB_yes {L : List UInt8} {d : UInt8} (h : d ∈ L) : hasB L d = true := decide_eq_true h
theorem hasB_no {L : List UInt8} {d : UInt8} (h : ¬ d ∈ L) : hasB L d = false := decide_eq_false h
theorem hasB_false {L : List UInt8} {d : UInt8} (h : hasB L d = false) : ¬ d ∈ L := of_decide_eq_false h

set_option maxHeartbeats 400000 in
theorem has12 (s : ByteArray) (d : UInt8) (n : Int) (hn : (d.toNat : Int) = n) (w : World) (hs : s.size ≤ 1048576) :
    Calls Try.prog 12 #[.string s, .int .u8 n] w fun e w' => e = .returned (.bool (hasB s.data.toList d)) ∧ w' = w := by
  subst hn
  go_enter Try.func12, Try.ntmps12
  go_wp2
  go_loop [5] (fun i => ∃ j : Nat, j ≤ s.size ∧ i = .int .i64 j ∧ ∀ i, i < j → s.data.toList[i]? ≠ some d) (fun i => s.size - (intOf i).toNat)
  case atStart => exact ⟨0, Nat.zero_le _, rfl, fun i hi => absurd hi (by omega)⟩
  case round =>
    obtain ⟨j, hj, rfl, hno⟩ := hrel
    have HNO : Hid (∀ i, i < j → s.data.toList[i]? ≠ some d) := hno
    clear hno
    by_cases hlt : j < s.size
    · have hlti : (j : Int) < (s.size : Int) := by omega
      have hc := byte_at s j hlt
      generalize hcc : s[j]'hlt = c at hc
      have HC : Hid (s.data.toList[j]? = some c) := hc
      clear hc
      by_cases h : c = d
      · have t : ((c.toNat : Int) == (d.toNat : Int)) = true := tn h
        have HM : Hid (d ∈ s.data.toList) := List.mem_of_getElem? (by rw [HC.out, h])
        clear h
        go_wp2
        go_ret
        exact ⟨by rw [hasB_yes HM.out]; rfl, rfl⟩
      · have t : ((c.toNat : Int) == (d.toNat : Int)) = false := fn h
        have HN : Hid (¬ c = d) := h
        clear h
        go_wp2
        go_round
        case rel =>
          refine ⟨j + 1, by omega, by go_num, fun i hi => ?_⟩
          by_cases e : i = j
          · subst e; rw [HC.out]; exact fun e => HN.out (Option.some.inj e)
          · exact HNO.out i (by omega)
        case measure => simp [intOf]; omega
    · have HM : Hid (¬ d ∈ s.data.toList) := by
        intro h
        obtain ⟨i, hi, e⟩ := List.mem_iff_getElem.1 h
        exact HNO.out i (by have : i < s.size := by simpa using hi
                            omega) (by rw [List.getElem?_eq_getElem hi, e])
      go_wp2
      go_ret
      exact ⟨by rw [hasB_no HM.out]; rfl, rfl⟩

/-- What zzPlainName answers. -/
def PlainRes (s : ByteArray) (e : Ending) : Prop := (e = .returned (.bool true) ∧ Plain s.data.toList) ∨ e = .returned (.bool false)

theorem plain11 (s : ByteArray) (w : World) (hs : s.size ≤ 1048576) :
    Calls Try.prog 11 #[.string s] w fun e w' => PlainRes s e ∧ w' = w := by
  have H58 : Hid (Calls Try.prog 12 #[.string s, .int .u8 58] w fun e w' => e = .returned (.bool (hasB s.data.toList 58)) ∧ w' = w) := has12 s 58 58 rfl w hs
  have H47 : Hid (Calls Try.prog 12 #[.string s, .int .u8 47] w fun e w' => e = .returned (.bool (hasB s.data.toList 47)) ∧ w' = w) := has12 s 47 47 rfl w hs
  have H91 : Hid (Calls Try.prog 12 #[.string s, .int .u8 91] w fun e w' => e = .returned (.bool (hasB s.data.toList 91)) ∧ w' = w) := has12 s 91 91 rfl w hs
  have H93 : Hid (Calls Try.prog 12 #[.string s, .int .u8 93] w fun e w' => e = .returned (.bool (hasB s.data.toList 93)) ∧ w' = w) := has12 s 93 93 rfl w hs
  cases b58 : hasB s.data.toList 58 with
  | true =>
    rw [b58] at H58
    go_enter Try.func11, Try.ntmps11
    go_wp2_with fail
    refine H58.out.mono ?_
    rintro e w' ⟨rfl, hw'⟩
    subst w'
    go_wp2
    go_ret
    exact ⟨Or.inr rfl, rfl⟩
  | false =>
  rw [b58] at H58
  cases b47 : hasB s.data.toList 47 with
  | true =>
    rw [b47] at H47
    go_enter Try.func11, Try.ntmps11
    go_wp2_with fail
    refine H58.out.mono ?_
    rintro e w' ⟨rfl, hw'⟩
    subst w'
    go_wp2_with fail
    refine H47.out.mono ?_
    rintro e w' ⟨rfl, hw'⟩
    subst w'
    go_wp2
    go_ret
    exact ⟨Or.inr rfl, rfl⟩
  | false =>
  rw [b47] at H47
  cases b91 : hasB s.data.toList 91 with
  | true =>
    rw [b91] at H91
    go_enter Try.func11, Try.ntmps11
    go_wp2_with fail
    refine H58.out.mono ?_
    rintro e w' ⟨rfl, hw'⟩
    subst w'
    go_wp2_with fail
    refine H47.out.mono ?_
    rintro e w' ⟨rfl, hw'⟩
    subst w'
    go_wp2_with fail
    refine H91.out.mono ?_
    rintro e w' ⟨rfl, hw'⟩
    subst w'
    go_wp2
    go_ret
    exact ⟨Or.inr rfl, rfl⟩
  | false =>
  rw [b91] at H91
  cases b93 : hasB s.data.toList 93 with
  | true =>
    rw [b93] at H93
    go_enter Try.func11, Try.ntmps11
    go_wp2_with fail
    refine H58.out.mono ?_
    rintro e w' ⟨rfl, hw'⟩
    subst w'
    go_wp2_with fail
    refine H47.out.mono ?_
    rintro e w' ⟨rfl, hw'⟩
    subst w'
    go_wp2_with fail
    refine H91.out.mono ?_
    rintro e w' ⟨rfl, hw'⟩
    subst w'
    go_wp2_with fail
    refine H93.out.mono ?_
    rintro e w' ⟨rfl, hw'⟩
    subst w'
    go_wp2
    go_ret
    exact ⟨Or.inr rfl, rfl⟩
  | false =>
  rw [b93] at H93
  have HP : Hid (Plain s.data.toList) := fun c hc => ⟨fun e => hasB_false b58 (e ▸ hc), fun e => hasB_false b47 (e ▸ hc), fun e => hasB_false b91 (e ▸ hc), fun e => hasB_false b93 (e ▸ hc)⟩
  clear b58 b47 b91 b93
  go_enter Try.func11, Try.ntmps11
  go_wp2_with fail
  refine H58.out.mono ?_
  rintro e w' ⟨rfl, hw'⟩
  subst w'
  go_wp2_with fail
  refine H47.out.mono ?_
  rintro e w' ⟨rfl, hw'⟩
  subst w'
  go_wp2_with fail
  refine H91.out.mono ?_
  rintro e w' ⟨rfl, hw'⟩
  subst w'
  go_wp2_with fail
  refine H93.out.mono ?_
  rintro e w' ⟨rfl, hw'⟩
  subst w'
  go_wp2
  go_ret
  exact ⟨Or.inl ⟨rfl, HP.out⟩, rfl⟩

/-! ### The strings that the law builds -/
theorem dl_append (a b : ByteArray) : (a ++ b).data.toList = a.data.toList ++ b.data.toList := by
  rw [ByteArray.data_append, Array.toList_append]
theorem res_scp_in (p b c : ByteArray) (hp : Plain p.data.toList) (hb : (93 : UInt8) ∉ b.data.toList) :
    Res (p ++ ({ data := #[91] } ++ b ++ { data := #[93] }) ++ { data := #[58] } ++ c).data.toList ((p.size : Int) + ((b.size : Int) + 2)) := by
  have h := res_bracket p.data.toList b.data.toList c.data.toList hp hb
  have e1 : (p ++ ({ data := #[91] } ++ b ++ { data := #[93] }) ++ { data := #[58] } ++ c).data.toList = p.data.toList ++ 91 :: (b.data.toList ++ 93 :: 58 :: c.data.toList) := by
    rw [dl_append, dl_append, dl_append, dl_append, dl_append]
    show p.data.toList ++ ([91] ++ b.data.toList ++ [93]) ++ [58] ++ c.data.toList = _
    simp only [List.append_assoc, List.cons_append, List.nil_append]
  have e2 : ((p.data.toList.length + (b.data.toList.length + 2) : Nat) : Int) = (p.size : Int) + ((b.size : Int) + 2) := by
    rw [Array.length_toList, Array.length_toList]; rfl
  rw [e1, ← e2]; exact h
theorem res_scp_out (p b c : ByteArray) (hp : Plain p.data.toList) (hb : Plain b.data.toList) :
    Res (p ++ b ++ { data := #[58] } ++ c).data.toList ((p.size : Int) + (b.size : Int)) := by
  have h := res_plain (p.data.toList ++ b.data.toList) c.data.toList (fun c hc => by
    rcases List.mem_append.1 hc with h | h
    · exact hp c h
    · exact hb c h)
  have e1 : (p ++ b ++ { data := #[58] } ++ c).data.toList = (p.data.toList ++ b.data.toList) ++ 58 :: c.data.toList := by
    rw [dl_append, dl_append, dl_append]
    show p.data.toList ++ b.data.toList ++ [58] ++ c.data.toList = _
    simp only [List.append_assoc, List.cons_append, List.nil_append]
  have e2 : (((p.data.toList ++ b.data.toList).length : Nat) : Int) = (p.size : Int) + (b.size : Int) := by
    rw [List.length_append, Array.length_toList, Array.length_toList]; rfl
  rw [e1, ← e2]; exact h
theorem sz_append (a b : ByteArray) : (a ++ b).size = a.size + b.size := ByteArray.size_append
theorem plain_user (a : ByteArray) (h : Plain a.data.toList) : Plain (a ++ { data := #[64] }).data.toList := by
  rw [dl_append]
  intro c hc
  rcases List.mem_append.1 hc with h1 | h1
  · exact h c h1
  · rw [List.mem_singleton.1 h1]; decide
theorem plain_none : Plain ({ data := #[] } : ByteArray).data.toList := by intro c hc; cases hc
end Go.Proofs.Qxb6600424a
