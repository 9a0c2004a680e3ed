import Derived.Test.Qxb6600424aHost
namespace Go.Proofs.Qxb6600424a
open Go.ChangeShapes Go.WideShapes Go.ChangeAt Go.RowKit
set_option linter.unusedVariables false

/-- What hostEnd answers. -/
def HostRes (s : ByteArray) (e : Ending) : Prop := ∃ r : Int, e = .returned (.int .i64 r) ∧ Res s.data.toList r

theorem u8_ne {c d : UInt8} (h : c.toNat ≠ d.toNat) : c ≠ d := fun e => h (by rw [e])

/-- A rune of several bytes: nothing stops in it, and the brackets stand. -/
theorem pass_high (s : ByteArray) (p : Nat) (h : p < s.size) (ha : 128 ≤ (s[p]'h).toNat) : ∀ k, k ≤ (Utf8.decode s p).2 → br s.data.toList (p + k) = br s.data.toList p ∧ ∀ i, p ≤ i → i < p + k → ¬ Stop s.data.toList i
  | 0, _ => ⟨rfl, fun i h1 h2 => by omega⟩
  | k + 1, hk => by
    obtain ⟨h1, h2⟩ := pass_high s p h ha k (by omega)
    obtain ⟨c, hc, hcn⟩ : ∃ c, s.data.toList[p + k]? = some c ∧ 128 ≤ c.toNat := by
      by_cases hk0 : k = 0
      · subst hk0; exact ⟨_, byte_at s p h, ha⟩
      · obtain ⟨q1, q2⟩ := decode_cont s p k h (by omega) (by omega)
        refine ⟨_, byte_at s (p + k) q1, ?_⟩
        have e := get_at s (p + k) q1
        rw [Nat.add_zero] at e
        rw [← e]; exact q2
    refine ⟨?_, fun i hi1 hi2 => ?_⟩
    · rw [← Nat.add_assoc, br_same hc (u8_ne (by show c.toNat ≠ 91; omega)) (u8_ne (by show c.toNat ≠ 93; omega)), h1]
    · by_cases e : i = p + k
      · subst e; exact not_stop hc (u8_ne (by show c.toNat ≠ 58; omega)) (u8_ne (by show c.toNat ≠ 47; omega))
      · exact h2 i hi1 (by omega)

set_option maxHeartbeats 1000000 in
theorem host13 (s : ByteArray) (w : World) (hs : s.size ≤ maxLen) :
    Calls Try.prog 13 #[.string s] w fun e w' => HostRes s e ∧ ∃ p, w' = w.iter s p := by
  go_enter Try.func13, Try.ntmps13
  go_wp2
  go_loopw [3] (fun v wr => ∃ p : Nat, p ≤ s.size ∧ wr = w.iter s p ∧ v = .bool (br s.data.toList p) ∧ ∀ i, i < p → ¬ Stop s.data.toList i) (fun _ wr => s.size - wr.iterPos w.heap.size)
  case atStart => exact ⟨0, Nat.zero_le _, rfl, rfl, fun i hi => absurd hi (by omega)⟩
  case round =>
    obtain ⟨p, hp, rfl, rfl, hno⟩ := hrel
    have HNO : Hid (∀ i, i < p → ¬ Stop s.data.toList i) := hno
    clear hno
    by_cases hlt : p < s.size
    · have hc := byte_at s p hlt
      by_cases ha : (s[p]'hlt).toNat < 128
      · have hnx := fun ty => run_next_ascii (P := Try.prog) w s p ty hlt ha
        generalize hcc : s[p]'hlt = c at hc ha hnx
        clear hcc
        have HC : Hid (s.data.toList[p]? = some c) := hc
        clear hc
        have step : (¬ Stop s.data.toList p) → Hid (∀ i, i < p + 1 → ¬ Stop s.data.toList i) := by
          intro h i hi
          by_cases e : i = p
          · subst e; exact h
          · exact HNO.out i (by omega)
        by_cases h91 : c = 91
        · have HBR : Hid (br s.data.toList (p + 1) = true) := br_open (by rw [HC.out, h91])
          have HST := step (not_stop HC.out (by rw [h91]; decide) (by rw [h91]; decide))
          have t91 : ((c.toNat : Int) == 91) = true := by rw [h91]; rfl
          clear h91 step
          go_wp2
          go_roundw
          case rel => exact ⟨p + 1, by omega, rfl, by rw [HBR.out], HST.out⟩
          case measure => simp; omega
        have t91 : ((c.toNat : Int) == 91) = false := by
          rw [beq_eq_false_iff_ne]; intro e; apply h91; apply UInt8.toNat_inj.1; show c.toNat = 91; omega
        by_cases h93 : c = 93
        · have HBR : Hid (br s.data.toList (p + 1) = false) := br_shut (by rw [HC.out, h93])
          have HST := step (not_stop HC.out (by rw [h93]; decide) (by rw [h93]; decide))
          have t93 : ((c.toNat : Int) == 93) = true := by rw [h93]; rfl
          clear h91 h93 step
          go_wp2
          go_roundw
          case rel => exact ⟨p + 1, by omega, rfl, by rw [HBR.out], HST.out⟩
          case measure => simp; omega
        have t93 : ((c.toNat : Int) == 93) = false := by
          rw [beq_eq_false_iff_ne]; intro e; apply h93; apply UInt8.toNat_inj.1; show c.toNat = 93; omega
        have HBR : Hid (br s.data.toList (p + 1) = br s.data.toList p) := br_same HC.out h91 h93
        cases hb : br s.data.toList p with
        | true =>
          have HST := step (not_stop_in hb)
          have HBR : Hid (br s.data.toList (p + 1) = true) := HBR.out.trans hb
          clear h91 h93 step hb
          go_wp2
          go_roundw
          case rel => exact ⟨p + 1, by omega, rfl, by rw [HBR.out], HST.out⟩
          case measure => simp; omega
        | false =>
          have HBR : Hid (br s.data.toList (p + 1) = false) := HBR.out.trans hb
          by_cases h58 : c = 58
          · have t58 : ((c.toNat : Int) == 58) = true := by rw [h58]; rfl
            have HRES : Hid (Res s.data.toList p) := Or.inl ⟨p, ⟨Or.inl (by rw [HC.out, h58]), hb⟩, HNO.out, by rw [if_pos (by rw [HC.out, h58])]⟩
            clear h91 h93 step hb h58
            go_wp2
            go_ret
            exact ⟨⟨p, rfl, HRES.out⟩, _, rfl⟩
          have t58 : ((c.toNat : Int) == 58) = false := by
            rw [beq_eq_false_iff_ne]; intro e; apply h58; apply UInt8.toNat_inj.1; show c.toNat = 58; omega
          by_cases h47 : c = 47
          · have t47 : ((c.toNat : Int) == 47) = true := by rw [h47]; rfl
            have HRES : Hid (Res s.data.toList (-1)) := Or.inl ⟨p, ⟨Or.inr (by rw [HC.out, h47]), hb⟩, HNO.out, by rw [if_neg (by rw [HC.out, h47]; decide)]⟩
            clear h91 h93 step hb h58 h47
            go_wp2
            go_ret
            exact ⟨⟨-1, rfl, HRES.out⟩, _, rfl⟩
          have t47 : ((c.toNat : Int) == 47) = false := by
            rw [beq_eq_false_iff_ne]; intro e; apply h47; apply UInt8.toNat_inj.1; show c.toNat = 47; omega
          have HST := step (not_stop HC.out h58 h47)
          clear h91 h93 step hb h58 h47
          go_wp2
          go_roundw
          case rel => exact ⟨p + 1, by omega, rfl, by rw [HBR.out], HST.out⟩
          case measure => simp; omega
      · have hnx := fun ty => run_next_any (P := Try.prog) w s p ty hlt
        have hhi := decode_high s p hlt (by omega)
        have hph := pass_high s p hlt (by omega)
        have hle : p + (Utf8.decode s p).2 ≤ s.size := by
          by_cases h1 : (Utf8.decode s p).2 = 1
          · omega
          · have := decode_cont s p ((Utf8.decode s p).2 - 1) hlt (by omega) (by omega)
            omega
        generalize (Utf8.decode s p).1 = c at hnx hhi
        generalize (Utf8.decode s p).2 = d at hnx hhi hph hle
        obtain ⟨hd1, hd2⟩ := hph d (Nat.le_refl _)
        have HBR : Hid (br s.data.toList (p + d) = br s.data.toList p) := hd1
        have HST : Hid (∀ i, i < p + d → ¬ Stop s.data.toList i) := by
          intro i hi
          by_cases h : i < p
          · exact HNO.out i h
          · exact hd2 i (by omega) hi
        have t91 : ((c : Int) == 91) = false := by rw [beq_eq_false_iff_ne]; omega
        have t93 : ((c : Int) == 93) = false := by rw [beq_eq_false_iff_ne]; omega
        have t58 : ((c : Int) == 58) = false := by rw [beq_eq_false_iff_ne]; omega
        have t47 : ((c : Int) == 47) = false := by rw [beq_eq_false_iff_ne]; omega
        clear hd1 hd2 hph hc ha
        have hdi : 1 ≤ d := hhi.2
        clear hhi
        cases hb : br s.data.toList p with
        | true =>
          have HBR : Hid (br s.data.toList (p + d) = true) := HBR.out.trans hb
          clear hb
          go_wp2
          go_roundw
          case rel => exact ⟨p + d, hle, rfl, by rw [HBR.out], HST.out⟩
          case measure => simp; omega
        | false =>
          have HBR : Hid (br s.data.toList (p + d) = false) := HBR.out.trans hb
          clear hb
          go_wp2
          go_roundw
          case rel => exact ⟨p + d, hle, rfl, by rw [HBR.out], HST.out⟩
          case measure => simp; omega
    · have hnx := fun ty => run_next_end (P := Try.prog) w s p ty hlt
      have HRES : Hid (Res s.data.toList (-1)) := Or.inr ⟨fun i => by
        by_cases h : i < p
        · exact HNO.out i h
        · exact not_stop_end (by simp; omega), rfl⟩
      go_wp2
      go_ret
      exact ⟨⟨-1, rfl, HRES.out⟩, p, rfl⟩
end Go.Proofs.Qxb6600424a
