import Derived.Test.Qxb6601269aRows
import Derived.WalkKit
import Derived.ProofKit
import Derived.OpenShut
import Derived.ShutString
import Derived.ChangeOld
import Derived.Below
import Derived.WalkSpells
import Derived.WalkLawsBesides
import Derived.BigQuiet
import Derived.Deep.QuietTactic
import Derived.Deep.RegionWith
namespace Go.Proofs.Qxb6601269a
open Go.ChangeShapes Go.WideShapes Go.ChangeAt Go.RowKit
set_option linter.unusedVariables false

/-- min(f, max(lo, x)), as Go's builtins reckon it. -/
def cl (lo f x : Int) : Int := if (if lo < x then x else lo) < f then (if lo < x then x else lo) else f
theorem cl_bd {lo f x : Int} (h : lo ≤ f) : lo ≤ cl lo f x ∧ cl lo f x ≤ f := by
  unfold cl; split <;> split <;> omega
theorem cl_mono {lo f x y : Int} (h : x ≤ y) : cl lo f x ≤ cl lo f y := by
  unfold cl; repeat' split
  all_goals omega
theorem cl0 (f bal u : Int) : (if (if u < bal then bal - u else 0) < f then (if u < bal then bal - u else 0) else f) = cl 0 f (bal - u) := by
  unfold cl
  by_cases h : u < bal
  · rw [if_pos h, if_pos (show 0 < bal - u by omega)]
  · rw [if_neg h, if_neg (show ¬ 0 < bal - u by omega)]
theorem ret_int {k : IntKind} {a b : Int} (h : a = b) : Ending.returned (.int k a) = .returned (.int k b) := by rw [h]

theorem within14 (x f : Int) (w : World) (hf0 : 0 ≤ f) (hf : f ≤ 2305843009213693952) (hx0 : -9223372036854775807 ≤ x) (hx1 : x ≤ 9223372036854775807) :
    Calls Try.prog 14 #[.int .i64 x, .int .i64 f] w fun e w' => e = .returned (.int .i64 (cl (-f) f x)) ∧ w' = w := by
  by_cases h1 : -f < x
  · by_cases h2 : x < f
    · have HE : Hid (x = cl (-f) f x) := by show _ = _; unfold cl; rw [if_pos h1, if_pos h2]
      go_enter Try.func14, Try.ntmps14
      go_wp2
      go_ret
      exact ⟨ret_int HE.out, rfl⟩
    · have HE : Hid (f = cl (-f) f x) := by show _ = _; unfold cl; rw [if_pos h1, if_neg h2]
      go_enter Try.func14, Try.ntmps14
      go_wp2
      go_ret
      exact ⟨ret_int HE.out, rfl⟩
  · by_cases h2 : -f < f
    · have HE : Hid (-f = cl (-f) f x) := by show _ = _; unfold cl; rw [if_neg h1, if_pos h2]
      go_enter Try.func14, Try.ntmps14
      go_wp2
      go_ret
      exact ⟨ret_int HE.out, rfl⟩
    · have HE : Hid (f = cl (-f) f x) := by show _ = _; unfold cl; rw [if_neg h1, if_neg h2]
      go_enter Try.func14, Try.ntmps14
      go_wp2
      go_ret
      exact ⟨ret_int HE.out, rfl⟩

theorem wrap_id {x : Int} (h0 : -9223372036854775807 ≤ x) (h1 : x ≤ 9223372036854775807) : IntKind.wrap .i64 x = x := by
  simp only [IntKind.wrap, IntKind.signed, IntKind.bits]
  simp
  omega

theorem win13 (br : Nat) (rd : Int) (w : World) (hrd : w.cell? ⟨br, 3, none⟩ = some (.int .i64 rd)) :
    Calls Try.prog 13 #[.pointer (some ⟨br, 0, none⟩)] w fun e w' => e = .returned (.bool (rd == 0)) ∧ w' = w := by
  go_enter Try.func13, Try.ntmps13
  go_wp2
  go_ret
  exact ⟨rfl, rfl⟩

set_option maxHeartbeats 1000000 in
/-- A token bucket. -/
theorem charge12_token (br bb : Nat) (rd f bal at' u now : Int) (w : World) (hrd : w.cell? ⟨br, 3, none⟩ = some (.int .i64 rd)) (hrf : w.cell? ⟨br, 6, none⟩ = some (.int .i64 f))
    (hb0 : w.cell? ⟨bb, 0, none⟩ = some (.int .i64 bal)) (hb1 : w.cell? ⟨bb, 1, none⟩ = some (.int .i64 at')) (hf0 : w.frozen? ⟨bb, 0, none⟩ = false) (hne : br ≠ bb) (hz : ¬ rd = 0)
    (f0 : 0 ≤ f) (f1 : f ≤ 2305843009213693952) (x0 : -9223372036854775807 ≤ bal - u) (x1 : bal - u ≤ 9223372036854775807) :
    Calls Try.prog 12 #[.pointer (some ⟨br, 0, none⟩), .pointer (some ⟨bb, 0, none⟩), .int .i64 u, .int .i64 now] w fun e w' => e = .returned (.tuple #[]) ∧
      Hid (Below bb w w' ∧ w'.cell? ⟨bb, 0, none⟩ = some (.int .i64 (cl (-f) f (bal - u))) ∧ ∃ t, w'.cell? ⟨bb, 1, none⟩ = some (.int .i64 t)) := by
  have hrb : (rd == 0) = false := by simp [hz]
  have HW := win13 br rd w hrd
  rw [hrb] at HW
  have HW' : Hid (Calls Try.prog 13 #[.pointer (some ⟨br, 0, none⟩)] w fun e w' => e = .returned (.bool false) ∧ w' = w) := HW
  have HWR : Hid (IntKind.wrap .i64 (bal - u) = bal - u) := wrap_id x0 x1
  clear HW hz
  go_enter Try.func12, Try.ntmps12
  go_wp2_with fail
  refine HW'.out.mono ?_
  rintro e w' ⟨rfl, hw'⟩
  subst w'
  go_wp2_with fail
  go_region_with (go_at_call 14; rw [HWR.out]; refine (within14 (bal - u) f _ f0 f1 x0 x1).mono ?_; rintro e w' ⟨rfl, rfl⟩)
  all_goals
    go_wp2
    exact bodyPost_ret (v := .tuple #[]) (by simp [results, Try.results12]) rfl ⟨rfl, ((Below.refl bb w).drew).setCell (p := ⟨bb, 0, none⟩) (Nat.le_refl _) _, World.cell?_setCell_same w.drew _ _ hb0, at', (World.cell?_setCell_other w.drew _ _ _ (by intro e; cases e)).trans hb1⟩

set_option maxHeartbeats 1000000 in
/-- A window: what is left behind the opening. -/
theorem charge12_win (br bb : Nat) (f bal at' u now : Int) (w : World) (hrd : w.cell? ⟨br, 3, none⟩ = some (.int .i64 0)) (hrf : w.cell? ⟨br, 6, none⟩ = some (.int .i64 f))
    (hb0 : w.cell? ⟨bb, 0, none⟩ = some (.int .i64 bal)) (hb1 : w.cell? ⟨bb, 1, none⟩ = some (.int .i64 at')) (hf0 : w.frozen? ⟨bb, 0, none⟩ = false) (hf1 : w.frozen? ⟨bb, 1, none⟩ = false) (hne : br ≠ bb)
    (f0 : 0 ≤ f) (f1 : f ≤ 2305843009213693952) (x0 : -9223372036854775807 ≤ bal - u) (x1 : bal - u ≤ 9223372036854775807) :
    Calls Try.prog 12 #[.pointer (some ⟨br, 0, none⟩), .pointer (some ⟨bb, 0, none⟩), .int .i64 u, .int .i64 now] w fun e w' => e = .returned (.tuple #[]) ∧
      Hid (Below bb w w' ∧ w'.cell? ⟨bb, 0, none⟩ = some (.int .i64 (cl 0 f (bal - u))) ∧ ∃ t, w'.cell? ⟨bb, 1, none⟩ = some (.int .i64 t)) := by
  have HW' : Hid (Calls Try.prog 13 #[.pointer (some ⟨br, 0, none⟩)] w fun e w' => e = .returned (.bool true) ∧ w' = w) := win13 br 0 w hrd
  have hwr : IntKind.wrap .i64 (bal - u) = bal - u := wrap_id x0 x1
  by_cases hu : 0 < u
  · cases hq : (at' == -4611686018427387904) with
    | false =>
      go_enter Try.func12, Try.ntmps12
      go_wp2_with fail
      refine HW'.out.mono ?_
      rintro e w' ⟨rfl, hw'⟩
      subst w'
      go_wp2_with fail
      go_region
      rw [cl0]
      go_wp2
      all_goals
        go_end0
        exact ⟨rfl, (Below.refl bb w).drew.setCell (p := ⟨bb, 0, none⟩) (Nat.le_refl _) _, World.cell?_setCell_same w.drew _ _ hb0, at', (World.cell?_setCell_other w.drew _ _ _ (by intro e; cases e)).trans hb1⟩
    | true =>
      go_enter Try.func12, Try.ntmps12
      go_wp2_with fail
      refine HW'.out.mono ?_
      rintro e w' ⟨rfl, hw'⟩
      subst w'
      go_wp2_with fail
      go_region
      rw [cl0]
      go_wp2
      all_goals
        go_end0
        exact ⟨rfl, (((Below.refl bb w).setCell (p := ⟨bb, 1, none⟩) (Nat.le_refl _) _).setCell (p := ⟨bb, 0, none⟩) (Nat.le_refl _) _).drew, World.cell?_setCell_same _ _ _ ((World.cell?_setCell_other w _ _ _ (by intro e; cases e)).trans hb0), now,
          (World.cell?_setCell_other (w.setCell ⟨bb, 1, none⟩ (.int .i64 now)) _ _ _ (by intro e; cases e)).trans (World.cell?_setCell_same w _ _ hb1)⟩
  · go_enter Try.func12, Try.ntmps12
    go_wp2_with fail
    refine HW'.out.mono ?_
    rintro e w' ⟨rfl, hw'⟩
    subst w'
    go_wp2_with fail
    go_region
    rw [cl0]
    go_wp2
    all_goals
      go_end0
      exact ⟨rfl, (Below.refl bb w).drew.setCell (p := ⟨bb, 0, none⟩) (Nat.le_refl _) _, World.cell?_setCell_same w.drew _ _ hb0, at', (World.cell?_setCell_other w.drew _ _ _ (by intro e; cases e)).trans hb1⟩

/-- The least that a bucket may hold. -/
def lo (rd f : Int) : Int := if rd = 0 then 0 else -f
theorem lo_le (rd f : Int) (h : 0 ≤ f) : lo rd f ≤ f := by unfold lo; split <;> omega

theorem charge12 (br bb : Nat) (rd f bal at' u now : Int) (w : World) (hrd : w.cell? ⟨br, 3, none⟩ = some (.int .i64 rd)) (hrf : w.cell? ⟨br, 6, none⟩ = some (.int .i64 f))
    (hb0 : w.cell? ⟨bb, 0, none⟩ = some (.int .i64 bal)) (hb1 : w.cell? ⟨bb, 1, none⟩ = some (.int .i64 at')) (hf0 : w.frozen? ⟨bb, 0, none⟩ = false) (hf1 : w.frozen? ⟨bb, 1, none⟩ = false) (hne : br ≠ bb)
    (f0 : 0 ≤ f) (f1 : f ≤ 2305843009213693952) (x0 : -9223372036854775807 ≤ bal - u) (x1 : bal - u ≤ 9223372036854775807) :
    Calls Try.prog 12 #[.pointer (some ⟨br, 0, none⟩), .pointer (some ⟨bb, 0, none⟩), .int .i64 u, .int .i64 now] w fun e w' => e = .returned (.tuple #[]) ∧
      Hid (Below bb w w' ∧ w'.cell? ⟨bb, 0, none⟩ = some (.int .i64 (cl (lo rd f) f (bal - u))) ∧ ∃ t, w'.cell? ⟨bb, 1, none⟩ = some (.int .i64 t)) := by
  unfold lo
  by_cases hz : rd = 0
  · subst hz
    rw [if_pos rfl]
    exact charge12_win br bb f bal at' u now w hrd hrf hb0 hb1 hf0 hf1 hne f0 f1 x0 x1
  · rw [if_neg hz]
    exact charge12_token br bb rd f bal at' u now w hrd hrf hb0 hb1 hf0 hne hz f0 f1 x0 x1
end Go.Proofs.Qxb6601269a
