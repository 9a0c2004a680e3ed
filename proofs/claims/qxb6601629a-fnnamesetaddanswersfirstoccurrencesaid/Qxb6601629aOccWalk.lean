import Derived.Test.Qxb6601629aNames
import Derived.Deep.Matrix
namespace Go.Proofs.Qxb6601629a
open Go.ChangeShapes Go.WideShapes Go.ChangeAt Go.RowKit
set_option linter.unusedVariables false

theorem Try.info22 : (Try.prog.info? 22).map (fun i => (i.zero, i.size, i.bytes)) = some (some (.slice none 0 0), 1, 24) := by kernel_rfl

set_option maxHeartbeats 2000000 in
theorem occ_pos (b off len cap : Nat) (A : Nat → Option Addr) (L C : Nat → Nat) (Z : Nat → List Int) (w : World) (hlen : 0 < len)
    (hc : ∀ r, r < len → w.cell? ⟨b, off + r, none⟩ = some (.slice (A r) (L r) (C r)) ∧ IsRow .u8 w (A r) (L r) (C r) (Z r)) :
    Calls Try.prog 4 #[.slice (some ⟨b, off, none⟩) len cap] w fun e w' => e = .returned (.bool true) ∧ Below w.heap.size w w' := by
  have HC : Hid (∀ r, r < len → w.cell? ⟨b, off + r, none⟩ = some (.slice (A r) (L r) (C r)) ∧ IsRow .u8 w (A r) (L r) (C r) (Z r)) := hc
  have hbw : b < w.heap.size := cell_lt (hc 0 hlen).1
  have HB : Hid (Calls Try.prog 12 #[.slice (some ⟨b, off, none⟩) len cap] w fun e w' => IsBool e ∧ w' = w) := bytes12_pos b off len cap A L C w (fun r hr => (hc r hr).1)
  clear hc
  have q27 : ∀ (w : World) (a : Option Addr) (n c n' c' : Nat), (binOp .neq 27 (.slice a n c) (.slice none n' c')).run Try.prog w = .ok (.bool !a.isNone) w := fun w a n c n' c' => run_neq_slice_nil_any w _ _ a n c n' c' Try.underlying27
  by_cases h4 : (len : Int) ≤ 4096
  · have hmk := fun w => run_make_row' (P := Try.prog) 27 22 (.slice none 0 0) 24 Try.underlying27 Try.info22 rfl .i64 .i64 len (by omega) (by omega) w
    go_enter Try.func4, Try.ntmps4
    go_wp2_with fail
    refine HB.out.mono ?_
    rintro e w' ⟨he, hw'⟩
    subst w'
    clear HB
    rcases he with rfl | rfl
    · go_wp2_with fail
      go_loop [3, 4] (fun t i => ∃ (k : Nat) (n : Int), k ≤ len ∧ i = .int .i64 k ∧ t = .int .i64 n ∧ 0 ≤ n ∧ n ≤ 1048600 * k ∧ ∀ r, r < k → L r ≤ 1048576) (fun _ i => len - (intOf i).toNat)
      case atStart => exact ⟨0, 0, Nat.zero_le _, rfl, rfl, by omega, by omega, fun r hr => absurd hr (by omega)⟩
      case round =>
        obtain ⟨k, n, hk, rfl, rfl, hn0, hn1, hL⟩ := hrel
        have HL : Hid (∀ r, r < k → L r ≤ 1048576) := hL
        clear hL
        by_cases hlt : k < len
        · have hck := (HC.out k hlt).1
          have hlti : (k : Int) < (len : Int) := by omega
          clear hmk q27
          by_cases hLk : (L k : Int) ≤ 1048576
          · go_wp2
            go_round
            case rel =>
              refine ⟨k + 1, _, by omega, by go_num, rfl, by omega, by omega, fun r hr => ?_⟩
              by_cases e : r = k
              · subst e; omega
              · exact HL.out r (by omega)
            case measure => simp [intOf]; omega
          · go_wp2
            go_ret
            exact ⟨rfl, Below.refl _ _⟩
        · have HLL : Hid (∀ r, r < len → L r ≤ 1048576) := fun r hr => HL.out r (by omega)
          clear HL
          by_cases htot : n ≤ 1048576
          · obtain ⟨Y, hY⟩ : ∃ Y : Nat → List Int, Y = fun r => (Z r).take (L r) := ⟨_, rfl⟩
            have HYb : Hid (∀ r, r < len → Byt (Y r) ∧ (Y r).length = L r) := by
              intro r hr; rw [hY]; exact (HC.out r hr).2.byt (HLL.out r hr)
            have HY : Hid (∀ r, (Z r).take (L r) = Y r) := by intro r; rw [hY]
            clear hY
            go_wp2_with fail
            clear htot hn0 hn1
            go_loopw [6] (fun i wr => ∃ j : Nat, j ≤ len ∧ i = .int .i64 j ∧ Cp w wr w.heap.size len j L Y) (fun i _ => len - (intOf i).toNat)
            case atStart => exact ⟨0, Nat.zero_le _, rfl, Cp.start w len L Y⟩
            case round =>
              clear hmk q27
              obtain ⟨j, hj, rfl, hcp⟩ := hrel
              by_cases hjl : j < len
              · have hjli : (j : Int) < (len : Int) := by omega
                have hcj : wr.cell? ⟨b, off + j, none⟩ = some (.slice (A j) (L j) (C j)) := (hcp.below.cell (p := ⟨b, off + j, none⟩) hbw).trans (HC.out j hjl).1
                have hrj : IsRow .u8 wr (A j) (L j) (C j) (Z j) := (HC.out j hjl).2.later hcp.below
                have HE : Hid (Calls Try.prog 9 #[.slice (A j) (L j) (C j)] wr fun e w' => ∃ a', e = .returned (.slice a' (L j) (L j)) ∧ Below wr.heap.size wr w' ∧
                    Hid ((a' = none ∧ L j = 0 ∧ w' = wr) ∨ (a' = some ⟨wr.heap.size, 0, none⟩ ∧ w'.heap[wr.heap.size]? = some (.cells (((Z j).take (L j)).map (Value.int .u8)).toArray 5 (0, 0))))) := clone_any (A j) (L j) (C j) (Z j) wr (HLL.out j hjl) hrj
                clear hrj
                go_wp2_with fail
                refine HE.out.mono ?_
                rintro e w1 ⟨a', rfl, hb1, hr1⟩
                rw [HY.out j] at hr1
                have hf1 : w1.frozen? ⟨w.heap.size, j, none⟩ = false := (hb1.frozen (p := ⟨w.heap.size, j, none⟩) hcp.lt).trans (hcp.free j)
                obtain ⟨v1, hv1⟩ := hcp.cells j hjl
                have hv2 : w1.cell? ⟨w.heap.size, j, none⟩ = some v1 := (hb1.cell (p := ⟨w.heap.size, j, none⟩) hcp.lt).trans hv1
                have HN : Hid (Cp w (w1.setCell ⟨w.heap.size, j, none⟩ (.slice a' (L j) (L j))) w.heap.size len (j + 1) L Y) := hcp.step hjl hb1 hr1.out (HYb.out j hjl).2
                clear hv1 hr1 hcp HE
                go_wp2
                go_roundw
                case rel => exact ⟨j + 1, by omega, by go_num, HN.out⟩
                case measure => simp [intOf]; omega
              · have hje : j = len := by omega
                subst hje
                go_wp2_with fail
                refine (make13 nil16 0 _ rfl).mono ?_
                rintro e W ⟨s, rfl, hs, hb2, hblk⟩
                have hst := St.start hblk
                have hN : NamesAt W s w.heap.size j L Y := by
                  have hgs : w.heap.size < s := Nat.lt_of_lt_of_le hcp.lt hs
                  refine ⟨hgs, fun r hr => ?_⟩
                  obtain ⟨h1, h2⟩ := HYb.out r hr
                  obtain ⟨a, h3, h4⟩ := hcp.done r hr
                  exact ⟨h1, h2, a, (hb2.cell (p := ⟨w.heap.size, r, none⟩) hcp.lt).trans h3, (h4.ownB.later hb2).mono hs⟩
                have hbel : Below w.heap.size w W := hcp.below.trans (hb2.mono (Nat.le_of_lt hcp.lt))
                have HST : Hid (St W s [] 16) := hst
                have HN : Hid (NamesAt W s w.heap.size j L Y) := hN
                clear hst hN hblk hcp hb2 hs HY HYb HLL HC
                go_wp2_with fail
                go_loopw [8] (fun i wr => ∃ p : Nat, p ≤ j ∧ i = .int .i64 p ∧ St wr s (firsts Y p) (16 + p) ∧ Below s W wr) (fun i _ => j - (intOf i).toNat)
                case atStart => exact ⟨0, Nat.zero_le _, rfl, HST.out, Below.refl _ _⟩
                case round =>
                  rename World => wo
                  obtain ⟨p, hp, rfl, hst, hbs⟩ := hrel
                  by_cases hpl : p < j
                  · have hpli : (p : Int) < (j : Int) := by omega
                    have hN := HN.out.later hbs
                    obtain ⟨hbp, hlp, ap, hcp, hop⟩ := hN.2 p hpl
                    have HNr : Hid (NamesAt wo s w.heap.size j L Y) := hN
                    have HSr : Hid (St wo s (firsts Y p) (16 + p)) := hst
                    clear hN hst
                    go_wp2_with fail
                    go_loopw [9, 10] (fun sn i wq => ∃ q : Nat, q ≤ p ∧ i = .int .i64 q ∧ sn = .bool false ∧ (∀ r, r < q → Y r ≠ Y p) ∧ ∃ d, wq = wo.drewN d) (fun _ i _ => p - (intOf i).toNat)
                    case atStart => exact ⟨0, Nat.zero_le _, rfl, rfl, fun r hr => absurd hr (by omega), 0, rfl⟩
                    case round =>
                      obtain ⟨q, hq, rfl, rfl, hne, d, hd⟩ := hrel
                      have HNE : Hid (∀ r, r < q → Y r ≠ Y p) := hne
                      have HD : Hid (wr = wo.drewN d) := hd
                      have hcpq : wr.cell? ⟨w.heap.size, p, none⟩ = some (.slice ap (L p) (L p)) := by rw [hd]; exact hcp
                      have hopq : OwnB wr s ap (Y p) := by rw [hd]; exact hop
                      have HSq : Hid (St wr s (firsts Y p) (16 + p)) := by rw [hd]; exact HSr.out
                      have hbq : Below s W wr := by rw [hd]; exact ⟨hbs.os, hbs.tape, hbs.output, hbs.size, hbs.block⟩
                      clear hne
                      by_cases hql : q < p
                      · have hqli : (q : Int) < (p : Int) := by omega
                        have hqj : (q : Int) < (j : Int) := by omega
                        obtain ⟨hbyq, hlq, aq, hcq, hoq⟩ := HNr.out.2 q (by omega)
                        have hcqq : wr.cell? ⟨w.heap.size, q, none⟩ = some (.slice aq (L q) (L q)) := by rw [hd]; exact hcq
                        have hoqq : OwnB wr s aq (Y q) := by rw [hd]; exact hoq
                        clear hd hcq hoq
                        have E := fun D => eq14 aq ap (Y q) (Y p) (L q) (L q) (L p) (L p) s (wr.drewN D) hoqq hopq hlq hlp hbyq.1
                        by_cases heq : Y q = Y p
                        · rw [decide_eq_true heq] at E
                          have HE : Hid (∀ D, Calls Try.prog 14 #[.slice aq (L q) (L q), .slice ap (L p) (L p)] (wr.drewN D) fun e w' => e = .returned (.bool true) ∧ ∃ m, w' = (wr.drewN D).drewN m) := E
                          have HIN : Hid (Y p ∈ firsts Y p) := (mem_firsts Y (Y p) p).2 ⟨q, hql, heq⟩
                          clear E heq
                          go_wp2_with fail
                          go_quiet ((go_at_call 14; exact Calls.quiet_of (HE.out _)))
                          go_wp2_with fail
                          have HA := add15 s (firsts Y p) (16 + p) ap (Y p) (L p) (wr.drewN nq) hlp HSq.out (by unfold maxLen; omega) (by omega) hopq hbp
                          rw [decide_eq_false (fun h => h HIN.out)] at HA
                          refine HA.mono ?_
                          rintro e w2 ⟨rfl, hb2, hst2⟩
                          have HS2 : Hid (St w2 s (firsts Y (p + 1)) (16 + (p + 1))) := hst2
                          have hbw2 : Below s W w2 := hbq.trans ((show Below s wr (wr.drewN nq) from ⟨rfl, rfl, rfl, Nat.le_refl _, fun _ _ => rfl⟩).trans hb2)
                          clear hst2 HA
                          go_wp2
                          go_roundw
                          case rel => exact ⟨p + 1, by omega, by go_num, HS2.out, hbw2⟩
                          case measure => simp [intOf]; omega
                        · rw [decide_eq_false heq] at E
                          have HE : Hid (∀ D, Calls Try.prog 14 #[.slice aq (L q) (L q), .slice ap (L p) (L p)] (wr.drewN D) fun e w' => e = .returned (.bool false) ∧ ∃ m, w' = (wr.drewN D).drewN m) := E
                          have HQ : Hid (¬ Y q = Y p) := heq
                          clear E heq
                          go_wp2_with fail
                          go_quiet ((go_at_call 14; exact Calls.quiet_of (HE.out _)))
                          go_wp2
                          go_roundw
                          case rel =>
                            refine ⟨q + 1, by omega, by go_num, rfl, fun r hr => ?_, d + nq, by rw [HD.out, World.drewN_drewN]⟩
                            by_cases e : r = q
                            · subst e; exact HQ.out
                            · exact HNE.out r (by omega)
                          case measure => simp [intOf]; omega
                      · clear hd
                        have HIN : Hid (Y p ∉ firsts Y p) := by
                          intro h
                          obtain ⟨r, hr, e⟩ := (mem_firsts Y (Y p) p).1 h
                          exact HNE.out r (by omega) e
                        go_wp2_with fail
                        have HA := add15 s (firsts Y p) (16 + p) ap (Y p) (L p) wr hlp HSq.out (by unfold maxLen; omega) (by omega) hopq hbp
                        rw [decide_eq_true HIN.out] at HA
                        refine HA.mono ?_
                        rintro e w2 ⟨rfl, hb2, hst2⟩
                        have HS2 : Hid (St w2 s (firsts Y (p + 1)) (16 + (p + 1))) := hst2
                        have hbw2 : Below s W w2 := hbq.trans hb2
                        clear hst2 HA
                        go_wp2
                        go_roundw
                        case rel => exact ⟨p + 1, by omega, by go_num, HS2.out, hbw2⟩
                        case measure => simp [intOf]; omega
                  · have hpe : p = j := by omega
                    subst hpe
                    have HSr : Hid (St wo s (firsts Y p) (16 + p)) := hst
                    clear hst
                    go_wp2_with fail
                    go_loopw [11] (fun i wr => ∃ q : Nat, q ≤ p ∧ i = .int .i64 q ∧ St wr s (firsts Y p) (16 + p + q) ∧ Below s W wr) (fun i _ => p - (intOf i).toNat)
                    case atStart => exact ⟨0, Nat.zero_le _, rfl, HSr.out, hbs⟩
                    case round =>
                      obtain ⟨q, hq, rfl, hst, hbq⟩ := hrel
                      by_cases hql : q < p
                      · have hqli : (q : Int) < (p : Int) := by omega
                        obtain ⟨hbyq, hlq, aq, hcq, hoq⟩ := (HN.out.later hbq).2 q hql
                        have HA := add15 s (firsts Y p) (16 + p + q) aq (Y q) (L q) wr hlq hst (by unfold maxLen; omega) (by omega) hoq hbyq
                        have hin : Y q ∈ firsts Y p := (mem_firsts Y (Y q) p).2 ⟨q, hql, rfl⟩
                        rw [decide_eq_false (fun h => h hin), if_pos hin] at HA
                        have HA' : Hid (Calls Try.prog 15 #[.pointer (some ⟨s, 0, none⟩), .slice aq (L q) (L q)] wr fun e w' => e = .returned (.bool false) ∧ Below s wr w' ∧ St w' s (firsts Y p) (16 + p + q + 1)) := HA
                        clear HA hst hin
                        go_wp2_with fail
                        refine HA'.out.mono ?_
                        rintro e w2 ⟨rfl, hb2, hst2⟩
                        have HS2 : Hid (St w2 s (firsts Y p) (16 + p + (q + 1))) := hst2
                        have hbw2 : Below s W w2 := hbq.trans hb2
                        clear hst2 HA'
                        go_wp2
                        go_roundw
                        case rel => exact ⟨q + 1, by omega, by go_num, HS2.out, hbw2⟩
                        case measure => simp [intOf]; omega
                      · go_wp2
                        go_ret
                        exact ⟨rfl, hbel.trans (hbq.mono (Nat.le_of_lt HN.out.1))⟩
          · go_wp2
            go_ret
            exact ⟨rfl, Below.refl _ _⟩
    · go_wp2
      go_ret
      exact ⟨rfl, Below.refl _ _⟩
  · go_enter Try.func4, Try.ntmps4
    go_wp2_with fail
    refine HB.out.mono ?_
    rintro e w' ⟨he, rfl⟩
    rcases he with rfl | rfl
    all_goals
      go_wp2
      go_ret
      exact ⟨rfl, Below.refl _ _⟩

set_option maxHeartbeats 1000000 in
theorem occ_zero (a : Option Addr) (cap : Nat) (w : World) :
    Calls Try.prog 4 #[.slice a 0 cap] w fun e w' => e = .returned (.bool true) ∧ Below w.heap.size w w' := by
  have HB : Hid (Calls Try.prog 12 #[.slice a 0 cap] w fun e w' => IsBool e ∧ w' = w) := bytes12_zero a cap w
  have q27 : ∀ (w : World) (a : Option Addr) (n c n' c' : Nat), (binOp .neq 27 (.slice a n c) (.slice none n' c')).run Try.prog w = .ok (.bool !a.isNone) w := fun w a n c n' c' => run_neq_slice_nil_any w _ _ a n c n' c' Try.underlying27
  have hmk : ∀ w, (Instr.makeSlice 27 (.int .i64 0) (.int .i64 0)).run Try.prog w = .ok (.slice (some ⟨w.heap.size, 0, none⟩) 0 0) (w.alloc (.cells (madeCells #[.slice none 0 0] 0) 22)) :=
    fun w => run_make_row' (P := Try.prog) 27 22 (.slice none 0 0) 24 Try.underlying27 Try.info22 rfl .i64 .i64 0 (by omega) (by omega) w
  cases a with
  | none =>
    go_enter Try.func4, Try.ntmps4
    go_wp2_with fail
    refine HB.out.mono ?_
    rintro e w' ⟨he, hw'⟩
    subst w'
    clear HB
    rcases he with rfl | rfl
    · go_wp2_with fail
      go_loop [3, 4] (fun t i => t = .int .i64 0 ∧ i = .int .i64 0) (fun _ _ => 0)
      case atStart => exact ⟨rfl, rfl⟩
      case round =>
        obtain ⟨rfl, rfl⟩ := hrel
        go_wp2_with fail
        refine (make13 nil16 0 _ rfl).mono ?_
        rintro e W ⟨s, rfl, hs, hb2, hblk⟩
        have hbel : Below w.heap.size w W := hb2
        go_wp2_with fail
        go_loop [8] (fun i => i = .int .i64 0) (fun _ => 0)
        case atStart => rfl
        case round =>
          subst hrel
          go_wp2_with fail
          go_loop [11] (fun i => i = .int .i64 0) (fun _ => 0)
          case atStart => rfl
          case round =>
            subst hrel
            go_wp2
            go_ret
            exact ⟨rfl, hbel⟩
    · go_wp2
      go_ret
      exact ⟨rfl, Below.refl _ _⟩
  | some x =>
    go_enter Try.func4, Try.ntmps4
    go_wp2_with fail
    refine HB.out.mono ?_
    rintro e w' ⟨he, hw'⟩
    subst w'
    clear HB
    rcases he with rfl | rfl
    · go_wp2_with fail
      go_loop [3, 4] (fun t i => t = .int .i64 0 ∧ i = .int .i64 0) (fun _ _ => 0)
      case atStart => exact ⟨rfl, rfl⟩
      case round =>
        obtain ⟨rfl, rfl⟩ := hrel
        go_wp2_with fail
        go_loop [6] (fun i => i = .int .i64 0) (fun _ => 0)
        case atStart => rfl
        case round =>
          subst hrel
          go_wp2_with fail
          refine (make13 nil16 0 _ rfl).mono ?_
          rintro e W ⟨s, rfl, hs, hb2, hblk⟩
          have hbel : Below w.heap.size w W := ((Below.refl _ _).alloc (Nat.le_refl _) _).trans (hb2.mono (by simp))
          go_wp2_with fail
          go_loop [8] (fun i => i = .int .i64 0) (fun _ => 0)
          case atStart => rfl
          case round =>
            subst hrel
            go_wp2_with fail
            go_loop [11] (fun i => i = .int .i64 0) (fun _ => 0)
            case atStart => rfl
            case round =>
              subst hrel
              go_wp2
              go_ret
              exact ⟨rfl, hbel⟩
    · go_wp2
      go_ret
      exact ⟨rfl, Below.refl _ _⟩

/-- An address at which a cell lies has no spot. -/
theorem addr_plain {w : World} {a : Addr} {v : Value} (h : w.cell? a = some v) : a = ⟨a.block, a.off, none⟩ := by
  unfold World.cell? at h
  split at h
  · split at h
    · cases h
    · rename_i hs
      cases a with
      | mk b o s => cases s with
        | none => rfl
        | some x => simp at hs
  · cases h

theorem add_plain (b o i : Nat) : (⟨b, o, none⟩ : Addr).add i = ⟨b, o + i, none⟩ := by
  unfold Addr.add; split <;> simp_all

/-- What the walk is told of the names: nil, or a row of cells, each a slice of bytes. -/
def IsRows (w : World) (a : Option Addr) (len : Nat) : Prop :=
  (a = none ∧ len = 0) ∨ ∃ (x : Addr) (A : Nat → Option Addr) (L C : Nat → Nat) (Z : Nat → List Int), a = some x ∧
    ∀ r, r < len → w.cell? (x.add r) = some (.slice (A r) (L r) (C r)) ∧ IsRow .u8 w (A r) (L r) (C r) (Z r)

theorem occ_any (a : Option Addr) (len cap : Nat) (w : World) (h : IsRows w a len) :
    Calls Try.prog 4 #[.slice a len cap] w fun e w' => e = .returned (.bool true) ∧ Below w.heap.size w w' := by
  rcases h with ⟨rfl, rfl⟩ | ⟨x, A, L, C, Z, rfl, h⟩
  · exact occ_zero none cap w
  · by_cases h0 : len = 0
    · subst h0; exact occ_zero (some x) cap w
    · have hx := addr_plain (h 0 (by omega)).1
      have e0 : x.add 0 = x := by simp [Addr.add]
      rw [e0] at hx
      generalize x.block = b at hx
      generalize x.off = off at hx
      subst hx
      exact occ_pos b off len cap A L C Z w (by omega) (fun r hr => by rw [← add_plain]; exact h r hr)
end Go.Proofs.Qxb6601629a
