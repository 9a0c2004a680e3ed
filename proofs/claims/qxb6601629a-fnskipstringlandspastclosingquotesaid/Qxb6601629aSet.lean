import Derived.Test.Qxb6601629aBase
import Derived.Laws.BytesArg
import Derived.Maps.Own
import Derived.Maps.OwnOps
import Derived.Maps.Views
import Derived.BigQuiet
import Derived.Deep.QuietTactic
namespace Go.Proofs.Qxb6601629a
open Go.ChangeShapes Go.WideShapes Go.ChangeAt Go.RowKit
set_option linter.unusedVariables false

theorem cell_set_ne {w : World} {b i j : Nat} {v : Value} (h : i ≠ j) : (w.setCell ⟨b, i, none⟩ v).cell? ⟨b, j, none⟩ = w.cell? ⟨b, j, none⟩ :=
  World.cell?_setCell_other w _ _ _ (by intro e; exact h (congrArg Addr.off e))
theorem cell_set_eq {w : World} {p : Addr} {v u : Value} (h : w.cell? p = some u) : (w.setCell p v).cell? p = some v := World.cell?_setCell_same w _ _ h
theorem heap_set_congr {w1 w2 : World} {p : Addr} {v : Value} (h : w1.heap[p.block]? = w2.heap[p.block]?) : (w1.setCell p v).heap[p.block]? = (w2.setCell p v).heap[p.block]? := by
  simp only [World.setCell, Array.getElem?_modify, h]

/-- Numbers that are bytes, not more than 1 << 20 of them. -/
def Byt (z : List Int) : Prop := z.length ≤ 1048576 ∧ ∀ n ∈ z, 0 ≤ n ∧ n ≤ 255

/-- A row of bytes of the call's own, in a block below B: nil, or a whole block that holds just these bytes. -/
def OwnB (w : World) (B : Nat) (a : Option Addr) (z : List Int) : Prop :=
  (a = none ∧ z = []) ∨ ∃ g, a = some ⟨g, 0, none⟩ ∧ g < B ∧ w.heap[g]? = some (.cells (z.map (Value.int .u8)).toArray 5 (0, 0))

theorem OwnB.later {w w' : World} {B : Nat} {a : Option Addr} {z : List Int} (h : OwnB w B a z) (hb : Below B w w') : OwnB w' B a z := by
  rcases h with h | ⟨g, h1, h2, h3⟩
  · exact .inl h
  · exact .inr ⟨g, h1, h2, (hb.block g h2).trans h3⟩

theorem OwnB.mono {w : World} {B B' : Nat} {a : Option Addr} {z : List Int} (h : OwnB w B a z) (hb : B ≤ B') : OwnB w B' a z := by
  rcases h with h | ⟨g, h1, h2, h3⟩
  · exact .inl h
  · exact .inr ⟨g, h1, by omega, h3⟩

theorem OwnB.conv {w : World} {B : Nat} {a : Option Addr} {z : List Int} (h : OwnB w B a z) (l c : Nat) (hl : z.length = l) : (convert 22 9 (.slice a l c)).run Try.prog w = .ok (.string (strOfNums z)) w := by
  rcases h with ⟨rfl, rfl⟩ | ⟨g, rfl, h2, h3⟩
  · exact run_convert_bytes_nil w 22 5 Try.underlying22 Try.underlying5 l c 9 Try.underlying9
  · refine run_convert_bytes_arg w 22 5 Try.underlying22 Try.underlying5 g 0 l c z hl (fun i hi => own_cell h3 ?_) 9 Try.underlying9
    rw [Nat.zero_add, List.getElem?_map, List.getElem?_eq_getElem (by omega)]
    simp [List.getD, List.getElem?_eq_getElem (show i < z.length by omega)]

theorem strOfNums_inj {z y : List Int} (hz : ∀ n ∈ z, 0 ≤ n ∧ n ≤ 255) (hy : ∀ n ∈ y, 0 ≤ n ∧ n ≤ 255) (h : (strOfNums z).data.toList = (strOfNums y).data.toList) : z = y := by
  have h' : (z.map fun n => UInt8.ofNat n.toNat) = (y.map fun n => UInt8.ofNat n.toNat) := h
  clear h
  induction z generalizing y with
  | nil => cases y with
    | nil => rfl
    | cons b y => simp at h'
  | cons a z ih => cases y with
    | nil => simp at h'
    | cons b y =>
      simp only [List.map_cons, List.cons.injEq] at h'
      obtain ⟨h1, h2⟩ := h'
      have ha := hz a (by simp)
      have hb := hy b (by simp)
      have e := congrArg UInt8.toNat h1
      simp only [UInt8.toNat_ofNat'] at e
      have : a = b := by omega
      rw [this, ih (fun n hn => hz n (by simp [hn])) (fun n hn => hy n (by simp [hn])) h2]

theorem str_eq {z y : List Int} (hz : Byt z) (hy : Byt y) : ((strOfNums z).toList == (strOfNums y).toList) = decide (z = y) := by
  by_cases h : z = y
  · subst h; simp
  · have : ¬ (strOfNums z).toList = (strOfNums y).toList := by
      intro e
      rw [ByteArray.toList_eq, ByteArray.toList_eq] at e
      exact h (strOfNums_inj hz.2 hy.2 e)
    simp [h, this]

theorem equal_any (a1 a2 : Option Addr) (z1 z2 : List Int) (l1 c1 l2 c2 B : Nat) (w : World) (h1 : OwnB w B a1 z1) (h2 : OwnB w B a2 z2) (hl1 : z1.length = l1) (hl2 : z2.length = l2) (b1 : Byt z1) (b2 : Byt z2) :
    Calls Try.prog 28 #[.slice a1 l1 c1, .slice a2 l2 c2] w fun e w' => e = .returned (.bool (decide (z1 = z2))) ∧ w' = w := by
  have q1 := h1.conv l1 c1 hl1
  have q2 := h2.conv l2 c2 hl2
  have HS : Hid (((strOfNums z1).toList == (strOfNums z2).toList) = decide (z1 = z2)) := str_eq b1 b2
  go_enter Try.func28, Try.ntmps28
  go_wp2
  go_ret
  exact ⟨by rw [← HS.out]; rfl, rfl⟩

/-- What the short list holds: the bytes of its first cells. -/
def Few (w : World) (b : Nat) (S : List (List Int)) : Prop :=
  ∀ i z, S[i]? = some z → Byt z ∧ ∃ a, w.cell? ⟨b, i, none⟩ = some (.slice a z.length z.length) ∧ OwnB w b a z

set_option maxHeartbeats 400000 in
/-- The short list holds the name already. -/
theorem add_found (b : Nat) (S : List (List Int)) (a : Option Addr) (z : List Int) (l : Nat) (w : World) (hl : z.length = l) (hn16 : S.length ≤ 16) (hf : Few w b S)
    (hn : w.cell? ⟨b, 16, none⟩ = some (.int .i64 (S.length : Int))) (hm : w.cell? ⟨b, 17, none⟩ = some (.map none)) (ho : OwnB w b a z) (hz : Byt z) (hin : z ∈ S) :
    Calls Try.prog 26 #[.pointer (some ⟨b, 0, none⟩), .slice a l l] w fun e w' => e = .returned (.bool false) ∧ ∃ q, w' = w.drewN q := by
  have q42 : ∀ (w : World) (r : Option Nat), (binOp .eql 42 (.map r) (.map none)).run Try.prog w = .ok (.bool r.isNone) w := fun w r => run_eql_map_nil w _ _ _ r Try.underlying42
  obtain ⟨n, hSn⟩ : ∃ n, S.length = n := ⟨_, rfl⟩
  rw [hSn] at hn hn16
  have hni : (n : Int) ≤ 16 := by omega
  have HS : Hid (S.length = n) := hSn
  have HF : Hid (Few w b S) := hf
  clear hSn hf
  go_enter Try.func26, Try.ntmps26
  go_wp2_with fail
  go_quiet (fail)
  go_wp2_with fail
  go_loop [23] (fun i => ∃ k : Nat, k ≤ n ∧ i = .int .i64 k ∧ ∀ j, j < k → S[j]? ≠ some z) (fun i => n - (intOf i).toNat)
  case atStart => exact ⟨0, Nat.zero_le _, rfl, fun j hj => absurd hj (by omega)⟩
  case round =>
    obtain ⟨k, hk, rfl, hno⟩ := hrel
    have HNO : Hid (∀ j, j < k → S[j]? ≠ some z) := hno
    clear hno
    by_cases hlt : k < n
    · obtain ⟨zk, hzk⟩ : ∃ zk, S[k]? = some zk := ⟨_, List.getElem?_eq_getElem (by have := HS.out; omega)⟩
      obtain ⟨bk, ak, hck, hok⟩ := HF.out k zk hzk
      have HZK : Hid (S[k]? = some zk) := hzk
      clear hzk
      have hlti : (k : Int) < (n : Int) := by omega
      have E := equal_any ak a zk z zk.length zk.length l l b (w.drewN nq) hok ho rfl hl bk hz
      have HE : Hid (Calls Try.prog 28 #[.slice ak zk.length zk.length, .slice a l l] (w.drewN nq) fun e w' => e = .returned (.bool (decide (zk = z))) ∧ w' = w.drewN nq) := E
      clear E
      by_cases heq : zk = z
      · have hd : decide (zk = z) = true := by simpa using heq
        rw [hd] at HE
        clear hd heq
        go_wp2_with (go_at_call 28; refine HE.out.mono ?_; rintro e w' ⟨rfl, rfl⟩)
        go_ret
        exact ⟨rfl, _, rfl⟩
      · have hd : decide (zk = z) = false := by simpa using heq
        rw [hd] at HE
        have HQ : Hid (¬ zk = z) := heq
        clear hd heq
        go_wp2_with (go_at_call 28; refine HE.out.mono ?_; rintro e w' ⟨rfl, rfl⟩)
        go_round
        case rel =>
          refine ⟨k + 1, by omega, by go_num, fun j hj => ?_⟩
          by_cases hjk : j = k
          · subst hjk; rw [HZK.out]; intro e; exact HQ.out (Option.some.inj e)
          · exact HNO.out j (by omega)
        case measure => simp [intOf]; omega
    · exfalso
      obtain ⟨i, hi, hiz⟩ := List.mem_iff_getElem.1 hin
      exact HNO.out i (by have := HS.out; omega) (by rw [List.getElem?_eq_getElem hi, hiz])

set_option maxHeartbeats 400000 in
/-- The short list doesn't hold the name and has room. -/
theorem add_room (b : Nat) (S : List (List Int)) (a : Option Addr) (z : List Int) (l : Nat) (w : World) (hl : z.length = l) (hn16 : S.length < 16) (hf : Few w b S)
    (hn : w.cell? ⟨b, 16, none⟩ = some (.int .i64 (S.length : Int))) (hm : w.cell? ⟨b, 17, none⟩ = some (.map none)) (ho : OwnB w b a z) (hz : Byt z) (hin : z ∉ S)
    (hfn : ∀ i, w.frozen? ⟨b, i, none⟩ = false) (v0 : Value) (hv0 : w.cell? ⟨b, S.length, none⟩ = some v0) :
    Calls Try.prog 26 #[.pointer (some ⟨b, 0, none⟩), .slice a l l] w fun e w' => e = .returned (.bool true) ∧
      ∃ q, w' = ((w.drewN q).setCell ⟨b, S.length, none⟩ (.slice a l l)).setCell ⟨b, 16, none⟩ (.int .i64 (S.length + 1)) := by
  have q42 : ∀ (w : World) (r : Option Nat), (binOp .eql 42 (.map r) (.map none)).run Try.prog w = .ok (.bool r.isNone) w := fun w r => run_eql_map_nil w _ _ _ r Try.underlying42
  obtain ⟨n, hSn⟩ : ∃ n, S.length = n := ⟨_, rfl⟩
  rw [hSn] at hn hn16 hv0 ⊢
  have hni : (n : Int) < 16 := by omega
  have hni' : (n : Int) ≤ 16 := by omega
  have hn16' : n ≤ 16 := by omega
  have HS : Hid (S.length = n) := hSn
  have HF : Hid (Few w b S) := hf
  clear hSn hf
  go_enter Try.func26, Try.ntmps26
  go_wp2_with fail
  go_quiet (fail)
  go_wp2_with fail
  go_loop [23] (fun i => ∃ k : Nat, k ≤ n ∧ i = .int .i64 k) (fun i => n - (intOf i).toNat)
  case atStart => exact ⟨0, Nat.zero_le _, rfl⟩
  case round =>
    obtain ⟨k, hk, rfl⟩ := hrel
    by_cases hlt : k < n
    · obtain ⟨zk, hzk⟩ : ∃ zk, S[k]? = some zk := ⟨_, List.getElem?_eq_getElem (by have := HS.out; omega)⟩
      obtain ⟨bk, ak, hck, hok⟩ := HF.out k zk hzk
      have hlti : (k : Int) < (n : Int) := by omega
      have E := equal_any ak a zk z zk.length zk.length l l b (w.drewN nq) hok ho rfl hl bk hz
      have hd : decide (zk = z) = false := by
        refine decide_eq_false fun e => hin ?_
        rw [← e]; exact List.mem_of_getElem? hzk
      rw [hd] at E
      have HE : Hid (Calls Try.prog 28 #[.slice ak zk.length zk.length, .slice a l l] (w.drewN nq) fun e w' => e = .returned (.bool false) ∧ w' = w.drewN nq) := E
      clear hd E hzk
      go_wp2_with (go_at_call 28; refine HE.out.mono ?_; rintro e w' ⟨rfl, rfl⟩)
      go_round
      case rel => exact ⟨k + 1, by omega, by go_num⟩
      case measure => simp [intOf]; omega
    · go_wp2_with fail
      go_region
      have hne : ¬ (16 = n) := by omega
      go_wp2
      go_ret
      exact ⟨rfl, _, rfl⟩
end Go.Proofs.Qxb6601629a
