import Derived.Test.Qxb6601629aShort
namespace Go.Proofs.Qxb6601629a
open Go.ChangeShapes Go.WideShapes Go.ChangeAt Go.RowKit
set_option linter.unusedVariables false

set_option maxHeartbeats 2000000 in
theorem short_any (F : List Value) (n : Int) (a : Option Addr) (l c : Nat) (z : List Int) (A : Nat → Option Addr) (L C : Nat → Nat) (Z : Nat → List Int) (w : World) (hF : F.length = 16)
    (hFr : ∀ r, r < 16 → F[r]? = some (.slice (A r) (L r) (C r)) ∧ IsRow .u8 w (A r) (L r) (C r) (Z r)) (hname : IsRow .u8 w a l c z) (hlm : l ≤ maxLen) (hLm : ∀ r, r < 16 → L r ≤ maxLen) :
    Calls Try.prog 5 #[.agg F.toArray, .int .i64 n, .slice a l c] w fun e w' => e = .returned (.bool true) ∧ Below w.heap.size w w' := by
  have HF : Hid (F.length = 16) := hF
  have HFR : Hid (∀ r, r < 16 → F[r]? = some (.slice (A r) (L r) (C r)) ∧ IsRow .u8 w (A r) (L r) (C r) (Z r)) := hFr
  have HLM : Hid (∀ r, r < 16 → L r ≤ maxLen) := hLm
  have HNM : Hid (IsRow .u8 w a l c z) := hname
  have HB : Hid (∀ w, Calls Try.prog 16 #[.agg F.toArray, .int .i64 n, .slice a l c] w fun e w' => IsBool e ∧ Below w.heap.size w w') := fun w => bytes16 F n a l c L w hF hlm (fun r hr => ⟨_, _, (hFr r hr).1⟩)
  clear hFr hname hLm
  unfold maxLen at hlm
  go_enter Try.func5, Try.ntmps5
  go_wp2_with (refine wpList_load31 rfl (.tmp 3) rfl w.heap.size rfl F HF.out (fun j v hv => own_cell (blk_new _ _) hv) ?_)
  have hW : Below w.heap.size w (w.alloc (.cells F.toArray 31)) := (Below.refl _ _).alloc (Nat.le_refl _) _
  have HWb : Hid ((w.alloc (.cells F.toArray 31)).heap[w.heap.size]? = some (.cells F.toArray 31 (0, 0))) := blk_new _ _
  generalize w.alloc (.cells F.toArray 31) = W at hW HWb ⊢
  refine (HB.out W).mono ?_
  rintro e W1 ⟨he, hb1⟩
  have hlt : w.heap.size < W.heap.size := (Array.getElem?_eq_some_iff.1 HWb.out).1
  have hW1 : Below w.heap.size w W1 := hW.trans (hb1.mono (Nat.le_of_lt hlt))
  have HW1b : Hid (W1.heap[w.heap.size]? = some (.cells F.toArray 31 (0, 0))) := (hb1.block _ hlt).trans HWb.out
  clear hb1 hW HWb HB hlt
  have HWc : Hid (∀ r, r < 16 → W1.cell? ⟨w.heap.size, r, none⟩ = some (.slice (A r) (L r) (C r))) := fun r hr => own_cell HW1b.out (HFR.out r hr).1
  rcases he with rfl | rfl
  · by_cases hl20 : (l : Int) ≤ 1048576
    · go_wp2_with fail
      go_loop [7, 8] (fun t i => ∃ (k : Nat) (m : Int), k ≤ 16 ∧ i = .int .i64 k ∧ t = .int .i64 m ∧ 0 ≤ m ∧ m ≤ 1048576 + 1048576 * k ∧ ∀ r, r < k → L r ≤ 1048576) (fun _ i => 16 - (intOf i).toNat)
      case atStart => exact ⟨0, l, Nat.zero_le _, rfl, rfl, by omega, by omega, fun r hr => absurd hr (by omega)⟩
      case round =>
        obtain ⟨k, m, hk, rfl, rfl, hm0, hm1, hL⟩ := hrel
        have HL : Hid (∀ r, r < k → L r ≤ 1048576) := hL
        clear hL
        by_cases hlt : k < 16
        · have hck := HWc.out k hlt
          have hlti : (k : Int) < 16 := by omega
          by_cases hLk : (L k : Int) ≤ 1048576
          · go_wp2
            go_round
            case rel =>
              refine ⟨k + 1, _, by omega, by go_num, rfl, by omega, by omega, fun r hr => ?_⟩
              by_cases e : r = k
              · subst e; omega
              · exact HL.out r (by omega)
            case measure => simp [intOf]; omega
          · go_wp2
            go_ret
            exact ⟨rfl, hW1⟩
        · have HLL : Hid (∀ r, r < 16 → L r ≤ 1048576) := fun r hr => HL.out r (by omega)
          clear HL
          by_cases htot : m ≤ 1048576
          · by_cases hn0 : 0 ≤ n
            · by_cases hn16 : n ≤ 16
              · obtain ⟨N, hN⟩ := Int.eq_ofNat_of_zero_le hn0
                subst hN
                have hgW : w.heap.size < W1.heap.size := (Array.getElem?_eq_some_iff.1 HW1b.out).1
                obtain ⟨Y, hY⟩ : ∃ Y : Nat → List Int, Y = fun r => (Z r).take (L r) := ⟨_, rfl⟩
                have HYb : Hid (∀ r, r < 16 → Byt (Y r) ∧ (Y r).length = L r) := by
                  intro r hr; rw [hY]; exact (HFR.out r hr).2.byt (HLL.out r hr)
                have HY : Hid (∀ r, (Z r).take (L r) = Y r) := by intro r; rw [hY]
                clear hY
                go_wp2_with fail
                clear htot hm0 hm1
                go_loopw [10] (fun i wr => ∃ j : Nat, j ≤ 16 ∧ i = .int .i64 j ∧ Cp W1 wr W1.heap.size 16 j L Y) (fun i _ => 16 - (intOf i).toNat)
                case atStart => exact ⟨0, Nat.zero_le _, rfl, Cp.start16 W1 L Y⟩
                case round =>
                  obtain ⟨j, hj, rfl, hcp⟩ := hrel
                  by_cases hjl : j < 16
                  · have hjli : (j : Int) < 16 := by omega
                    have hcj : wr.cell? ⟨w.heap.size, j, none⟩ = some (.slice (A j) (L j) (C j)) := (hcp.below.cell (p := ⟨w.heap.size, j, none⟩) hgW).trans (HWc.out j hjl)
                    have hrj : IsRow .u8 wr (A j) (L j) (C j) (Z j) := (HFR.out j hjl).2.later (hW1.trans (hcp.below.mono (Nat.le_of_lt hgW)))
                    have HE : Hid (Calls Try.prog 9 #[.slice (A j) (L j) (C j)] wr fun e w' => ∃ a', e = .returned (.slice a' (L j) (L j)) ∧ Below wr.heap.size wr w' ∧
                        Hid ((a' = none ∧ L j = 0 ∧ w' = wr) ∨ (a' = some ⟨wr.heap.size, 0, none⟩ ∧ w'.heap[wr.heap.size]? = some (.cells (((Z j).take (L j)).map (Value.int .u8)).toArray 5 (0, 0))))) := clone_any (A j) (L j) (C j) (Z j) wr (HLL.out j hjl) hrj
                    clear hrj
                    go_wp2_with fail
                    refine HE.out.mono ?_
                    rintro e w1 ⟨a', rfl, hb1, hr1⟩
                    rw [HY.out j] at hr1
                    have hf1 : w1.frozen? ⟨W1.heap.size, j, none⟩ = false := (hb1.frozen (p := ⟨W1.heap.size, j, none⟩) hcp.lt).trans (hcp.free j)
                    obtain ⟨v1, hv1⟩ := hcp.cells j hjl
                    have hv2 : w1.cell? ⟨W1.heap.size, j, none⟩ = some v1 := (hb1.cell (p := ⟨W1.heap.size, j, none⟩) hcp.lt).trans hv1
                    have HN : Hid (Cp W1 (w1.setCell ⟨W1.heap.size, j, none⟩ (.slice a' (L j) (L j))) W1.heap.size 16 (j + 1) L Y) := hcp.step hjl hb1 hr1.out (HYb.out j hjl).2
                    clear hv1 hr1 hcp HE
                    go_wp2
                    go_roundw
                    case rel => exact ⟨j + 1, by omega, by go_num, HN.out⟩
                    case measure => simp [intOf]; omega
                  · have hje : j = 16 := by omega
                    subst hje
                    obtain ⟨As, hAs⟩ := Go.Deep.choose_lt (n := 16) hcp.done
                    obtain ⟨G, hG⟩ : ∃ G : List Value, G = (List.range 16).map (fun r => Value.slice (As r) (L r) (L r)) := ⟨_, rfl⟩
                    have HGl : Hid (G.length = 16) := by show _ = _; rw [hG]; simp
                    have HGr : Hid (∀ r, r < 16 → G[r]? = some (.slice (As r) (L r) (L r)) ∧ OwnN wr W1.heap.size (As r) (Y r)) := by
                      intro r hr
                      refine ⟨?_, (hAs r hr).2⟩
                      rw [hG, List.getElem?_map, List.getElem?_range hr]; rfl
                    have HG1 : Hid (G.toArray.all (·.oneCell') = true) := by
                      show _ = _
                      rw [hG]; simp [Value.oneCell']
                    have HGc : Hid (∀ r v, G[r]? = some v → wr.cell? ⟨W1.heap.size, r, none⟩ = some v) := by
                      intro r v hv
                      have hr : r < 16 := by have h1 := (List.getElem?_eq_some_iff.1 hv).1; have h2 := HGl.out; omega
                      have h1 := (HGr.out r hr).1
                      rw [h1] at hv
                      cases hv
                      exact (hAs r hr).1
                    have HW2b : Hid (wr.heap[w.heap.size]? = some (.cells F.toArray 31 (0, 0))) := (hcp.below.block _ hgW).trans HW1b.out
                    have hbw2 : Below w.heap.size w wr := hW1.trans (hcp.below.mono (Nat.le_of_lt hgW))
                    have hlt2 : W1.heap.size < wr.heap.size := hcp.lt
                    clear hG hAs hcp HWc HW1b HFR HLL HY HLM
                    go_wp2_with (first | (refine wpList_load31 rfl (.tmp 9) rfl W1.heap.size rfl G HGl.out HGc.out ?_) | (refine wpList_store_row rfl 31 (.tmp 3) (.tmp 58) rfl w.heap.size G.toArray rfl rfl 31 F.toArray HW2b.out ?_ ?_ HG1.out ?_))
                    · rw [Try.info31]; show some 16 = some G.length; rw [HGl.out]
                    · show F.length = G.length; rw [HF.out, HGl.out]
                    have hlt0 : w.heap.size < wr.heap.size := by omega
                    have HW3b : Hid ((wr.setRow w.heap.size G.toArray).heap[w.heap.size]? = some (.cells G.toArray 31 (0, 0))) := setRow_heap _ _ _ _ _ _ HW2b.out
                    have hbw3 : Below w.heap.size w (wr.setRow w.heap.size G.toArray) := below_setRow hbw2 (Nat.le_refl _) _
                    have HN3 : Hid (∀ r, r < 16 → OwnN (wr.setRow w.heap.size G.toArray) W1.heap.size (As r) (Y r)) := by
                      intro r hr
                      rcases (HGr.out r hr).2 with h | ⟨x, h1, h2, h3, h4⟩
                      · exact .inl h
                      · exact .inr ⟨x, h1, h2, by simpa [World.setRow] using h3, (setRow_other _ _ _ _ (by omega)).trans h4⟩
                    have HG3 : Hid (∀ r, r < 16 → G[r]? = some (.slice (As r) (L r) (L r))) := fun r hr => (HGr.out r hr).1
                    have hsz3 : w.heap.size < (wr.setRow w.heap.size G.toArray).heap.size := by simpa [World.setRow] using hlt0
                    generalize wr.setRow w.heap.size G.toArray = W3 at HW3b hbw3 HN3 hsz3 ⊢
                    clear HW2b hbw2 hlt2 hlt0 HGr HGc HG1 hgW hW1 HF hF
                    have HCL := clone_any a l c z W3 (by omega) (HNM.out.later hbw3)
                    obtain ⟨zn, hzn⟩ : ∃ zn, zn = z.take l := ⟨_, rfl⟩
                    have hzb : Byt zn ∧ zn.length = l := by rw [hzn]; exact HNM.out.byt (by omega)
                    rw [← hzn] at HCL
                    clear hzn
                    refine HCL.mono ?_
                    rintro e W4 ⟨a4, rfl, hb4, hr4⟩
                    obtain ⟨hbyz, hlz⟩ := hzb
                    have HZL : Hid (zn.length = l) := hlz
                    have HZB : Hid (Byt zn) := hbyz
                    have HO4 : Hid (OwnB W4 W4.heap.size a4 zn) := by
                      rcases hr4.out with ⟨h1, h2, _⟩ | ⟨h1, h2⟩
                      · exact .inl ⟨h1, List.eq_nil_of_length_eq_zero (hlz.trans h2)⟩
                      · exact .inr ⟨_, h1, (Array.getElem?_eq_some_iff.1 h2).1, h2⟩
                    have HN4 : Hid (∀ r, r < 16 → OwnB W4 W4.heap.size (As r) (Y r)) := fun r hr => ((HN3.out r hr).later hb4).ownB
                    have HW4b : Hid (W4.heap[w.heap.size]? = some (.cells G.toArray 31 (0, 0))) := (hb4.block _ hsz3).trans HW3b.out
                    have hbw4 : Below w.heap.size w W4 := hbw3.trans (hb4.mono (Nat.le_of_lt hsz3))
                    have hsz4 : w.heap.size < W4.heap.size := Nat.lt_of_lt_of_le hsz3 hb4.size
                    have HC4 : Hid (∀ r, r < 16 → W4.cell? ⟨w.heap.size, r, none⟩ = some (.slice (As r) (L r) (L r))) := fun r hr => own_cell HW4b.out (HG3.out r hr)
                    clear HCL hr4 hb4 hsz3 HN3 HW3b hbw3 hlz hbyz HNM
                    go_wp2_with fail
                    have hN16 : (N : Int) ≤ 16 := by omega
                    go_loopw [11, 12] (fun t i wr => ∃ q : Nat, q ≤ N ∧ i = .int .i64 q ∧ t = .bool false ∧ (∀ r, r < q → Y r ≠ zn) ∧ ∃ d, wr = W4.drewN d) (fun _ i _ => N - (intOf i).toNat)
                    case atStart => exact ⟨0, Nat.zero_le _, rfl, rfl, fun r hr => absurd hr (by omega), 0, rfl⟩
                    case round =>
                      rename World => V
                      obtain ⟨q, hq, rfl, rfl, hne, d, hV⟩ := hrel
                      have HNE : Hid (∀ r, r < q → Y r ≠ zn) := hne
                      have HV : Hid (V = W4.drewN d) := hV
                      clear hne
                      by_cases hql : q < N
                      · have hqli : (q : Int) < (N : Int) := by omega
                        have hq16 : (q : Int) < 16 := by omega
                        have hcq : V.cell? ⟨w.heap.size, q, none⟩ = some (.slice (As q) (L q) (L q)) := by rw [hV]; exact HC4.out q (by omega)
                        have E := eq14 (As q) a4 (Y q) zn (L q) (L q) l l W4.heap.size V (by rw [hV]; exact HN4.out q (by omega)) (by rw [hV]; exact HO4.out) (HYb.out q (by omega)).2 HZL.out (HYb.out q (by omega)).1.1
                        clear hV
                        by_cases heq : Y q = zn
                        · rw [decide_eq_true heq] at E
                          have HE : Hid (Calls Try.prog 14 #[.slice (As q) (L q) (L q), .slice a4 l l] V fun e w' => e = .returned (.bool true) ∧ ∃ m, w' = V.drewN m) := E
                          have HIN : Hid (zn ∈ taken Y N) := (mem_taken Y N zn).2 ⟨q, hql, heq⟩
                          clear E heq
                          go_wp2_with fail
                          refine HE.out.mono ?_
                          rintro e V2 ⟨rfl, m2, hV2⟩
                          have hV3 : V2 = W4.drewN (d + m2) := by rw [hV2, HV.out, World.drewN_drewN]
                          clear hV2 HE
                          have hbV : Below w.heap.size w V2 := by rw [hV3]; exact ⟨hbw4.os, hbw4.tape, hbw4.output, hbw4.size, hbw4.block⟩
                          have HVb : Hid (V2.heap[w.heap.size]? = some (.cells G.toArray 31 (0, 0))) := by rw [hV3]; exact HW4b.out
                          have HOV : Hid (OwnB V2 V2.heap.size a4 zn) := by rw [hV3]; exact HO4.out
                          have HNV : Hid (∀ r, r < 16 → OwnB V2 V2.heap.size (As r) (Y r)) := by rw [hV3]; exact HN4.out
                          have hszV : w.heap.size < V2.heap.size := by rw [hV3]; exact hsz4
                          clear hV3
                          go_wp2_with (refine wpList_load31 rfl (.tmp 3) rfl w.heap.size rfl G HGl.out (fun j v hv => own_cell HVb.out hv) ?_)
                          refine (make13 G N _ HGl.out).mono ?_
                          rintro e W5 ⟨s, rfl, hs, hb5, hblk⟩
                          have HS5 : Hid (St W5 s (taken Y N) 16) := St.short hblk HGl.out (by omega) HG3.out HYb.out (fun r hr => ((HNV.out r hr).later hb5).mono hs)
                          have HO5 : Hid (OwnB W5 s a4 zn) := (HOV.out.later hb5).mono hs
                          have HN5 : Hid (∀ r, r < 16 → OwnB W5 s (As r) (Y r)) := fun r hr => ((HNV.out r hr).later hb5).mono hs
                          have hbw5 : Below w.heap.size w W5 := hbV.trans (hb5.mono (Nat.le_of_lt hszV))
                          have hgs : w.heap.size < s := Nat.lt_of_lt_of_le hszV hs
                          have HC5 : Hid (∀ r, r < 16 → W5.cell? ⟨w.heap.size, r, none⟩ = some (.slice (As r) (L r) (L r))) := fun r hr => (hb5.cell (p := ⟨w.heap.size, r, none⟩) hszV).trans (own_cell HVb.out (HG3.out r hr))
                          clear hb5 hblk hbV HVb HOV HNV hszV hs HC4 HN4 HO4 HW4b hbw4 hsz4
                          obtain ⟨S', hS'⟩ : ∃ S', S' = (if zn ∈ taken Y N then taken Y N else taken Y N ++ [zn]) := ⟨_, rfl⟩
                          have HZS : Hid (zn ∈ S') := by
                            show _ ∈ _
                            rw [hS']; split
                            · assumption
                            · simp
                          have HYS : Hid (∀ r, r < N → Y r ∈ S') := by
                            intro r hr
                            have h := (mem_taken Y N (Y r)).2 ⟨r, hr, rfl⟩
                            rw [hS']; split
                            · exact h
                            · exact List.mem_append_left _ h
                          have HA1 := add15 s (taken Y N) 16 a4 zn l W5 HZL.out HS5.out (by unfold maxLen; omega) (by omega) HO5.out HZB.out
                          rw [← hS', decide_eq_false (fun h => h HIN.out)] at HA1
                          have HA1' : Hid (Calls Try.prog 15 #[.pointer (some ⟨s, 0, none⟩), .slice a4 l l] W5 fun e w' => e = .returned (.bool false) ∧ Below s W5 w' ∧ St w' s S' 17) := HA1
                          clear HA1 hS'
                          go_wp2_with fail
                          refine HA1'.out.mono ?_
                          rintro e W6 ⟨rfl, hb6, hst6⟩
                          have HA2 := add15 s S' 17 a4 zn l W6 HZL.out hst6 (by unfold maxLen; omega) (by omega) (HO5.out.later hb6) HZB.out
                          rw [decide_eq_false (fun h => h HZS.out), if_pos HZS.out] at HA2
                          have HA2' : Hid (Calls Try.prog 15 #[.pointer (some ⟨s, 0, none⟩), .slice a4 l l] W6 fun e w' => e = .returned (.bool false) ∧ Below s W6 w' ∧ St w' s S' 18) := HA2
                          clear HA2 hst6 HA1'
                          go_wp2_with fail
                          refine HA2'.out.mono ?_
                          rintro e W7 ⟨rfl, hb7, hst7⟩
                          have hb57 : Below s W5 W7 := hb6.trans hb7
                          have HS7 : Hid (St W7 s S' 18) := hst7
                          clear hb6 hb7 HA2' hst7
                          go_wp2_with fail
                          go_loopw [14] (fun i wr => ∃ q : Nat, q ≤ N ∧ i = .int .i64 q ∧ St wr s S' (18 + q) ∧ Below s W5 wr) (fun i _ => N - (intOf i).toNat)
                          case atStart => exact ⟨0, Nat.zero_le _, rfl, HS7.out, hb57⟩
                          case round =>
                            obtain ⟨q, hq, rfl, hst, hbq⟩ := hrel
                            by_cases hql : q < N
                            · have hqli : (q : Int) < (N : Int) := by omega
                              have hq16 : (q : Int) < 16 := by omega
                              have hcq : wr.cell? ⟨w.heap.size, q, none⟩ = some (.slice (As q) (L q) (L q)) := (hbq.cell (p := ⟨w.heap.size, q, none⟩) hgs).trans (HC5.out q (by omega))
                              have HA3 := add15 s S' (18 + q) (As q) (Y q) (L q) wr (HYb.out q (by omega)).2 hst (by unfold maxLen; omega) (by omega) ((HN5.out q (by omega)).later hbq) (HYb.out q (by omega)).1
                              rw [decide_eq_false (fun h => h (HYS.out q hql)), if_pos (HYS.out q hql)] at HA3
                              have HA3' : Hid (Calls Try.prog 15 #[.pointer (some ⟨s, 0, none⟩), .slice (As q) (L q) (L q)] wr fun e w' => e = .returned (.bool false) ∧ Below s wr w' ∧ St w' s S' (18 + q + 1)) := HA3
                              clear HA3 hst
                              go_wp2_with fail
                              refine HA3'.out.mono ?_
                              rintro e w8 ⟨rfl, hb8, hst8⟩
                              have HS8 : Hid (St w8 s S' (18 + (q + 1))) := hst8
                              have hbw8 : Below s W5 w8 := hbq.trans hb8
                              clear hst8 HA3'
                              go_wp2
                              go_roundw
                              case rel => exact ⟨q + 1, by omega, by go_num, HS8.out, hbw8⟩
                              case measure => simp [intOf]; omega
                            · go_wp2
                              go_ret
                              exact ⟨rfl, hbw5.trans (hbq.mono (Nat.le_of_lt hgs))⟩
                        · rw [decide_eq_false heq] at E
                          have HE : Hid (Calls Try.prog 14 #[.slice (As q) (L q) (L q), .slice a4 l l] V fun e w' => e = .returned (.bool false) ∧ ∃ m, w' = V.drewN m) := E
                          have HQ : Hid (¬ Y q = zn) := heq
                          clear E heq
                          go_wp2_with fail
                          refine HE.out.mono ?_
                          rintro e V2 ⟨rfl, m2, hV2⟩
                          have HV3 : Hid (V2 = W4.drewN (d + m2)) := by show _ = _; rw [hV2, HV.out, World.drewN_drewN]
                          clear hV2 HE
                          go_wp2
                          go_roundw
                          case rel =>
                            refine ⟨q + 1, by omega, by go_num, rfl, fun r hr => ?_, d + m2, HV3.out⟩
                            by_cases e : r = q
                            · subst e; exact HQ.out
                            · exact HNE.out r (by omega)
                          case measure => simp [intOf]; omega
                      · have HIN : Hid (zn ∉ taken Y N) := by
                          intro h
                          obtain ⟨r, hr, e⟩ := (mem_taken Y N zn).1 h
                          exact HNE.out r (by omega) e
                        have hbV : Below w.heap.size w V := by rw [hV]; exact ⟨hbw4.os, hbw4.tape, hbw4.output, hbw4.size, hbw4.block⟩
                        have HVb : Hid (V.heap[w.heap.size]? = some (.cells G.toArray 31 (0, 0))) := by rw [hV]; exact HW4b.out
                        have HOV : Hid (OwnB V V.heap.size a4 zn) := by rw [hV]; exact HO4.out
                        have HNV : Hid (∀ r, r < 16 → OwnB V V.heap.size (As r) (Y r)) := by rw [hV]; exact HN4.out
                        have hszV : w.heap.size < V.heap.size := by rw [hV]; exact hsz4
                        clear hV
                        go_wp2_with (refine wpList_load31 rfl (.tmp 3) rfl w.heap.size rfl G HGl.out (fun j v hv => own_cell HVb.out hv) ?_)
                        refine (make13 G N _ HGl.out).mono ?_
                        rintro e W5 ⟨s, rfl, hs, hb5, hblk⟩
                        have HS5 : Hid (St W5 s (taken Y N) 16) := St.short hblk HGl.out (by omega) HG3.out HYb.out (fun r hr => ((HNV.out r hr).later hb5).mono hs)
                        have HO5 : Hid (OwnB W5 s a4 zn) := (HOV.out.later hb5).mono hs
                        have HN5 : Hid (∀ r, r < 16 → OwnB W5 s (As r) (Y r)) := fun r hr => ((HNV.out r hr).later hb5).mono hs
                        have hbw5 : Below w.heap.size w W5 := hbV.trans (hb5.mono (Nat.le_of_lt hszV))
                        have hgs : w.heap.size < s := Nat.lt_of_lt_of_le hszV hs
                        have HC5 : Hid (∀ r, r < 16 → W5.cell? ⟨w.heap.size, r, none⟩ = some (.slice (As r) (L r) (L r))) := fun r hr => (hb5.cell (p := ⟨w.heap.size, r, none⟩) hszV).trans (own_cell HVb.out (HG3.out r hr))
                        clear hb5 hblk hbV HVb HOV HNV hszV hs HC4 HN4 HO4 HW4b hbw4 hsz4
                        obtain ⟨S', hS'⟩ : ∃ S', S' = (if zn ∈ taken Y N then taken Y N else taken Y N ++ [zn]) := ⟨_, rfl⟩
                        have HZS : Hid (zn ∈ S') := by
                          show _ ∈ _
                          rw [hS']; split
                          · assumption
                          · simp
                        have HYS : Hid (∀ r, r < N → Y r ∈ S') := by
                          intro r hr
                          have h := (mem_taken Y N (Y r)).2 ⟨r, hr, rfl⟩
                          rw [hS']; split
                          · exact h
                          · exact List.mem_append_left _ h
                        have HA1 := add15 s (taken Y N) 16 a4 zn l W5 HZL.out HS5.out (by unfold maxLen; omega) (by omega) HO5.out HZB.out
                        rw [← hS', decide_eq_true HIN.out] at HA1
                        have HA1' : Hid (Calls Try.prog 15 #[.pointer (some ⟨s, 0, none⟩), .slice a4 l l] W5 fun e w' => e = .returned (.bool true) ∧ Below s W5 w' ∧ St w' s S' 17) := HA1
                        clear HA1 hS'
                        go_wp2_with fail
                        refine HA1'.out.mono ?_
                        rintro e W6 ⟨rfl, hb6, hst6⟩
                        have HA2 := add15 s S' 17 a4 zn l W6 HZL.out hst6 (by unfold maxLen; omega) (by omega) (HO5.out.later hb6) HZB.out
                        rw [decide_eq_false (fun h => h HZS.out), if_pos HZS.out] at HA2
                        have HA2' : Hid (Calls Try.prog 15 #[.pointer (some ⟨s, 0, none⟩), .slice a4 l l] W6 fun e w' => e = .returned (.bool false) ∧ Below s W6 w' ∧ St w' s S' 18) := HA2
                        clear HA2 hst6 HA1'
                        go_wp2_with fail
                        refine HA2'.out.mono ?_
                        rintro e W7 ⟨rfl, hb7, hst7⟩
                        have hb57 : Below s W5 W7 := hb6.trans hb7
                        have HS7 : Hid (St W7 s S' 18) := hst7
                        clear hb6 hb7 HA2' hst7
                        go_wp2_with fail
                        go_loopw [14] (fun i wr => ∃ q : Nat, q ≤ N ∧ i = .int .i64 q ∧ St wr s S' (18 + q) ∧ Below s W5 wr) (fun i _ => N - (intOf i).toNat)
                        case atStart => exact ⟨0, Nat.zero_le _, rfl, HS7.out, hb57⟩
                        case round =>
                          obtain ⟨q, hq, rfl, hst, hbq⟩ := hrel
                          by_cases hql : q < N
                          · have hqli : (q : Int) < (N : Int) := by omega
                            have hq16 : (q : Int) < 16 := by omega
                            have hcq : wr.cell? ⟨w.heap.size, q, none⟩ = some (.slice (As q) (L q) (L q)) := (hbq.cell (p := ⟨w.heap.size, q, none⟩) hgs).trans (HC5.out q (by omega))
                            have HA3 := add15 s S' (18 + q) (As q) (Y q) (L q) wr (HYb.out q (by omega)).2 hst (by unfold maxLen; omega) (by omega) ((HN5.out q (by omega)).later hbq) (HYb.out q (by omega)).1
                            rw [decide_eq_false (fun h => h (HYS.out q hql)), if_pos (HYS.out q hql)] at HA3
                            have HA3' : Hid (Calls Try.prog 15 #[.pointer (some ⟨s, 0, none⟩), .slice (As q) (L q) (L q)] wr fun e w' => e = .returned (.bool false) ∧ Below s wr w' ∧ St w' s S' (18 + q + 1)) := HA3
                            clear HA3 hst
                            go_wp2_with fail
                            refine HA3'.out.mono ?_
                            rintro e w8 ⟨rfl, hb8, hst8⟩
                            have HS8 : Hid (St w8 s S' (18 + (q + 1))) := hst8
                            have hbw8 : Below s W5 w8 := hbq.trans hb8
                            clear hst8 HA3'
                            go_wp2
                            go_roundw
                            case rel => exact ⟨q + 1, by omega, by go_num, HS8.out, hbw8⟩
                            case measure => simp [intOf]; omega
                          · go_wp2
                            go_ret
                            exact ⟨rfl, hbw5.trans (hbq.mono (Nat.le_of_lt hgs))⟩
              · go_wp2
                go_ret
                exact ⟨rfl, hW1⟩
            · go_wp2
              go_ret
              exact ⟨rfl, hW1⟩
          · go_wp2
            go_ret
            exact ⟨rfl, hW1⟩
    · go_wp2
      go_ret
      exact ⟨rfl, hW1⟩
  · go_wp2
    go_ret
    exact ⟨rfl, hW1⟩
end Go.Proofs.Qxb6601629a
