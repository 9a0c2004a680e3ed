import Derived.Test.Qxb6601629aSetMap
import Derived.Maps.OwnSet
namespace Go.Proofs.Qxb6601629a
open Go.ChangeShapes Go.WideShapes Go.ChangeAt Go.RowKit
set_option linter.unusedVariables false

set_option maxHeartbeats 1000000 in
/-- The short list doesn't hold the name and is full: the map is made. -/
theorem add_full (b : Nat) (S : List (List Int)) (F : List Value) (a : Option Addr) (z : List Int) (l : Nat) (w : World) (hl : z.length = l) (hn16 : S.length = 16) (hf : Few w b S)
    (hF : F.length = 16) (hFc : ∀ j v, F[j]? = some v → w.cell? ⟨b, j, none⟩ = some v)
    (hn : w.cell? ⟨b, 16, none⟩ = some (.int .i64 16)) (hm : w.cell? ⟨b, 17, none⟩ = some (.map none)) (ho : OwnB w b a z) (hz : Byt z) (hin : z ∉ S)
    (hfn : ∀ i, w.frozen? ⟨b, i, none⟩ = false) (hbw : b < w.heap.size) :
    Calls Try.prog 26 #[.pointer (some ⟨b, 0, none⟩), .slice a l l] w fun e w' => e = .returned (.bool true) ∧ Below b w w' ∧ OwnsSet w' w.heap.size 17 (S ++ [z]) ∧
      w'.heap[b]? = (w.setCell ⟨b, 17, none⟩ (.map (some w.heap.size))).heap[b]? := by
  have q42 : ∀ (w : World) (r : Option Nat), (binOp .eql 42 (.map r) (.map none)).run Try.prog w = .ok (.bool r.isNone) w := fun w r => run_eql_map_nil w _ _ _ r Try.underlying42
  have hmk := run_make42
  have HS : Hid (S.length = 16) := hn16
  have HF : Hid (Few w b S) := hf
  have HF16 : Hid (F.length = 16) := hF
  have HFC : Hid (∀ j v, F[j]? = some v → w.cell? ⟨b, j, none⟩ = some v) := hFc
  clear hf hn16 hF hFc
  go_enter Try.func26, Try.ntmps26
  go_wp2_with fail
  go_quiet (fail)
  go_wp2_with fail
  go_loop [23] (fun i => ∃ k : Nat, k ≤ 16 ∧ i = .int .i64 k) (fun i => 16 - (intOf i).toNat)
  case atStart => exact ⟨0, Nat.zero_le _, rfl⟩
  case round =>
    obtain ⟨k, hk, rfl⟩ := hrel
    by_cases hlt : k < 16
    · obtain ⟨zk, hzk⟩ : ∃ zk, S[k]? = some zk := ⟨_, List.getElem?_eq_getElem (by have := HS.out; omega)⟩
      obtain ⟨bk, ak, hck, hok⟩ := HF.out k zk hzk
      have hlti : (k : Int) < 16 := by omega
      have E := equal_any ak a zk z zk.length zk.length l l b (w.drewN nq) hok ho rfl hl bk hz
      have hd : decide (zk = z) = false := by
        refine decide_eq_false fun e => hin ?_
        rw [← e]; exact List.mem_of_getElem? hzk
      rw [hd] at E
      have HE : Hid (Calls Try.prog 28 #[.slice ak zk.length zk.length, .slice a l l] (w.drewN nq) fun e w' => e = .returned (.bool false) ∧ w' = w.drewN nq) := E
      clear hd E hzk
      go_wp2_with (go_at_call 28; refine HE.out.mono ?_; rintro e w' ⟨rfl, rfl⟩)
      go_round
      case rel => exact ⟨k + 1, by omega, by go_num⟩
      case measure => simp [intOf]; omega
    · have hc1 : ((w.drewN nq).alloc (.map #[] 0)).cell? ⟨b, 17, none⟩ = some (.map none) := (World.cell?_of_block (w := w.drewN nq) (Below.heap_alloc _ _ _ hbw)).trans hm
      have hf1 : ((w.drewN nq).alloc (.map #[] 0)).frozen? ⟨b, 17, none⟩ = false := (World.frozen?_of_block (w := w.drewN nq) (Below.heap_alloc _ _ _ hbw)).trans (hfn 17)
      go_wp2_with (refine wpList_load31 rfl (.tmp 58) rfl b rfl F HF16.out ?_ ?_)
      · intro j v hj
        have hj16 : j < 16 := by have := HF16.out; have := (List.getElem?_eq_some_iff.1 hj).1; omega
        rw [cell_set_ne (by omega)]
        exact (World.cell?_of_block (w := w.drewN nq) (Below.heap_alloc _ _ _ hbw)).trans (HFC.out j v hj)
      go_loopw [60] (fun i wr => ∃ k : Nat, k ≤ 16 ∧ i = .int .i64 k ∧ OwnsSet wr w.heap.size k (S.take k) ∧ Below b w wr ∧ wr.cell? ⟨b, 17, none⟩ = some (.map (some w.heap.size)) ∧
          wr.heap[b]? = (w.setCell ⟨b, 17, none⟩ (.map (some w.heap.size))).heap[b]?) (fun i _ => 16 - (intOf i).toNat)
      case atStart =>
        refine ⟨0, Nat.zero_le _, rfl, ?_, ?_, ?_, ?_⟩
        · exact (World.ownsMap_made (w.drewN nq) Try.prog 9 (plainElem Try.prog 4)).setCell (a := ⟨b, 17, none⟩) (by show w.heap.size ≠ b; omega) _
        · exact ((show Below b w (w.drewN nq) from ⟨rfl, rfl, rfl, Nat.le_refl _, fun _ _ => rfl⟩).alloc (by exact Nat.le_of_lt hbw) _).setCell (p := ⟨b, 17, none⟩) (Nat.le_refl _) _
        · exact cell_set_eq hc1
        · exact heap_set_congr (p := ⟨b, 17, none⟩) (Below.heap_alloc (w.drewN nq) _ _ hbw)
      case round =>
        clear hc1 hf1
        obtain ⟨j, hj, rfl, hown, hbel, hc17, hblk⟩ := hrel
        have HBLK : Hid (wr.heap[b]? = (w.setCell ⟨b, 17, none⟩ (.map (some w.heap.size))).heap[b]?) := hblk
        clear hblk
        by_cases hjl : j < 16
        · obtain ⟨zj, hzj⟩ : ∃ zj, S[j]? = some zj := ⟨_, List.getElem?_eq_getElem (by have := HS.out; omega)⟩
          obtain ⟨bj, aj, hcj, hoj⟩ := HF.out j zj hzj
          obtain ⟨v, hv⟩ : ∃ v, F[j]? = some v := ⟨_, List.getElem?_eq_getElem (by have := HF16.out; omega)⟩
          have hvs : v = .slice aj zj.length zj.length := by
            have := HFC.out j v hv
            rw [hcj] at this
            exact (Option.some.inj this).symm
          have hidx := fun W => run_index31 W F j v hjl hv
          rw [hvs] at hidx
          have hcv : (convert 22 9 (.slice aj zj.length zj.length)).run Try.prog wr.drew = .ok (.string (strOfNums zj)) wr.drew := OwnB.conv (w := wr.drew) (hoj.later hbel.drew) _ _ rfl
          obtain ⟨w1, hup, hown1, hg1⟩ := set_update (w := wr.drew) hown (by unfold maxLen; omega) bj
          have hR : OwnsSet w1 w.heap.size (j + 1) (S.take (j + 1)) := by
            rw [List.take_add_one, hzj]; exact hown1
          have hbel1 : Below b w w1 := hbel.trans ((Below.refl b wr).drew.grown hg1 (by exact Nat.le_trans (Nat.le_of_lt hbw) hbel.size) (fun k hk => by cases hk; exact Nat.le_of_lt hbw))
          have hblk1 : w1.heap[b]? = wr.heap[b]? := hg1.block b (by exact Nat.lt_of_lt_of_le hbw hbel.size) (by intro e; cases e; omega)
          have hc171 : w1.cell? ⟨b, 17, none⟩ = some (.map (some w.heap.size)) := (World.cell?_of_block (w := wr) hblk1).trans hc17
          have HB1 : Hid (w1.heap[b]? = wr.heap[b]?) := hblk1
          have HR : Hid (OwnsSet w1 w.heap.size (j + 1) (S.take (j + 1))) := hR
          clear hblk1 hR hown1 hg1 hvs hv hzj hcj hoj
          have hjli : (j : Int) < 16 := by omega
          go_wp2_with fail
          go_region
          go_wp2
          go_roundw
          case rel => exact ⟨j + 1, by omega, by go_num, HR.out, hbel1, hc171, HB1.out.trans HBLK.out⟩
          case measure => simp [intOf]; omega
        · have hj16 : j = 16 := by omega
          subst hj16
          rw [List.take_of_length_le (by have := HS.out; omega)] at hown
          have hSb : ∀ y ∈ S, Byt y := by
            intro y hy
            obtain ⟨i, hi, rfl⟩ := List.mem_iff_getElem.1 hy
            exact (HF.out i _ (List.getElem?_eq_getElem hi)).1
          have hcv : (convert 22 9 (.slice a l l)).run Try.prog wr.drew = .ok (.string (strOfNums z)) wr.drew := OwnB.conv (w := wr.drew) (ho.later hbel.drew) _ _ hl
          have hcv2 : (convert 22 9 (.slice a l l)).run Try.prog wr.drew.drew = .ok (.string (strOfNums z)) wr.drew.drew := OwnB.conv (w := wr.drew.drew) (ho.later (w' := wr.drew.drew) ⟨hbel.os, hbel.tape, hbel.output, hbel.size, hbel.block⟩) _ _ hl
          have hlk := set_lookup (w := wr.drew) hown hSb hz
          rw [decide_eq_false hin] at hlk
          obtain ⟨w1, hup, hown1, hg1⟩ := set_update (w := wr.drew.drew) hown (by unfold maxLen; omega) hz
          have hbel1 : Below b w w1 := hbel.trans ((show Below b wr wr.drew.drew from ⟨rfl, rfl, rfl, Nat.le_refl _, fun _ _ => rfl⟩).grown hg1 (by exact Nat.le_trans (Nat.le_of_lt hbw) hbel.size) (fun k hk => by cases hk; exact Nat.le_of_lt hbw))
          have hblk1 : w1.heap[b]? = wr.heap[b]? := hg1.block b (by exact Nat.lt_of_lt_of_le hbw hbel.size) (by intro e; cases e; omega)
          have HB1 : Hid (w1.heap[b]? = wr.heap[b]?) := hblk1
          have HR : Hid (OwnsSet w1 w.heap.size 17 (S ++ [z])) := hown1
          clear hblk1 hown1 hg1
          go_wp2_with fail
          go_region
          go_wp2_with fail

          go_region
          go_wp2
          go_ret
          exact ⟨rfl, hbel1, HR.out, HB1.out.trans HBLK.out⟩
end Go.Proofs.Qxb6601629a
