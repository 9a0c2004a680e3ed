import Derived.Test.Qxb6601629aSet
import Derived.BigQuiet
import Derived.Deep.QuietTactic
namespace Go.Proofs.Qxb6601629a
open Go.ChangeShapes Go.WideShapes Go.ChangeAt Go.RowKit
set_option linter.unusedVariables false

/-- THE SCAN, WITHOUT Go: from place p (the loop's head) it comes, in f steps, to the quote at place e: a backslash passes two places, any other byte one. -/
def Runs (D : List Int) : Nat → Nat → Nat → Prop
  | 0, p, e => p = e ∧ D[p]? = some 34
  | f + 1, p, e => ∃ c, D[p]? = some c ∧ c ≠ 34 ∧ Runs D f (if c = 92 then p + 2 else p + 1) e

theorem Runs.le {D : List Int} : ∀ {f p e : Nat}, Runs D f p e → p ≤ e ∧ e < D.length
  | 0, p, e, h => by
    obtain ⟨rfl, h⟩ := h
    exact ⟨Nat.le_refl _, (List.getElem?_eq_some_iff.1 h).1⟩
  | f + 1, p, e, h => by
    obtain ⟨c, _, _, h⟩ := h
    have := Runs.le h
    split at this <;> omega

/-- The number in a cell. -/
def posOf (w : World) (b : Nat) : Nat := match w.cell? ⟨b, 1, none⟩ with | some (.int _ q) => q.toNat | _ => 0
theorem posOf_eq {w : World} {b : Nat} {q : Int} (h : w.cell? ⟨b, 1, none⟩ = some (.int .i64 q)) : posOf w b = q.toNat := by unfold posOf; rw [h]

theorem meas {X wr : World} {b q e : Nat} {v : Int} (h : X.cell? ⟨b, 1, none⟩ = some (.int .i64 v)) (hw : posOf wr b = q) (h1 : (q : Int) < v) (h2 : q ≤ e) : e + 1 - posOf X b < e + 1 - posOf wr b := by
  rw [posOf_eq h, hw]; omega

theorem set1 {w X : World} {b : Nat} {dv u v : Value} (hbel : Below b w X) (hd : X.cell? ⟨b, 0, none⟩ = some dv) (hp : X.cell? ⟨b, 1, none⟩ = some u) (hf : X.frozen? ⟨b, 1, none⟩ = false) :
    Below b w (X.setCell ⟨b, 1, none⟩ v) ∧ (X.setCell ⟨b, 1, none⟩ v).cell? ⟨b, 0, none⟩ = some dv ∧ (X.setCell ⟨b, 1, none⟩ v).cell? ⟨b, 1, none⟩ = some v ∧ (X.setCell ⟨b, 1, none⟩ v).frozen? ⟨b, 1, none⟩ = false :=
  ⟨hbel.setCell (p := ⟨b, 1, none⟩) (Nat.le_refl _) _, by rw [cell_set_ne (by omega)]; exact hd, cell_set_eq hp, by rw [World.frozen?_setCell]; exact hf⟩

set_option maxHeartbeats 1000000 in
theorem skip27 (b g n : Nat) (D : List Int) (p f e : Nat) (w : World) (hd : w.cell? ⟨b, 0, none⟩ = some (.slice (some ⟨g, 0, none⟩) n n)) (hp : w.cell? ⟨b, 1, none⟩ = some (.int .i64 p)) (hf : w.frozen? ⟨b, 1, none⟩ = false)
    (hg : g < b) (hD : w.heap[g]? = some (.cells (D.map (Value.int .u8)).toArray 5 (0, 0))) (hn : D.length = n) (hn21 : n ≤ 2097152) (hr : Runs D f (p + 1) e) :
    Calls Try.prog 27 #[.pointer (some ⟨b, 0, none⟩)] w fun r w' => r = .returned (.tuple #[]) ∧ Below b w w' ∧ w'.cell? ⟨b, 1, none⟩ = some (.int .i64 (e + 1)) ∧ w'.cell? ⟨b, 0, none⟩ = some (.slice (some ⟨g, 0, none⟩) n n) := by
  have HR : Hid (Runs D f (p + 1) e) := hr
  have HDB : Hid (∀ i c, D[i]? = some c → w.cell? ⟨g, i, none⟩ = some (.int .u8 c)) := fun i c hc => own_cell hD (by rw [List.getElem?_map, hc]; rfl)
  have hpe := hr.le
  have HN : Hid (D.length = n) := hn
  rw [hn] at hpe
  have hpi : (p : Int) ≤ 2097152 := by omega
  clear hr hD hn
  go_enter Try.func27, Try.ntmps27
  go_wp2_with fail
  go_loopw [19] (fun _ wr => ∃ f' q : Nat, Runs D f' q e ∧ Below b w wr ∧ wr.cell? ⟨b, 0, none⟩ = some (.slice (some ⟨g, 0, none⟩) n n) ∧ wr.cell? ⟨b, 1, none⟩ = some (.int .i64 q) ∧ wr.frozen? ⟨b, 1, none⟩ = false)
    (fun _ wr => e + 1 - posOf wr b)
  case atStart =>
    refine ⟨f, p + 1, HR.out, (Below.refl b w).setCell (p := ⟨b, 1, none⟩) (Nat.le_refl _) _, ?_, ?_, ?_⟩
    · rw [cell_set_ne (by omega)]; exact hd
    · rw [cell_set_eq hp]; go_num
    · rw [World.frozen?_setCell]; exact hf
  case round =>
    obtain ⟨f', q, hrun, hbel, hd', hp', hf'⟩ := hrel
    clear hd hp hf HR
    have hqe := hrun.le
    rw [HN.out] at hqe
    have hqn : (q : Int) < (n : Int) := by omega
    have hpq := posOf_eq hp'
    have HPQ : Hid (posOf wr b = q) := hpq.trans (Int.toNat_natCast q)
    clear hpq
    cases f' with
    | zero =>
      obtain ⟨rfl, hc⟩ := hrun
      have hcc : wr.cell? ⟨g, q, none⟩ = some (.int .u8 34) := (hbel.cell (p := ⟨g, q, none⟩) hg).trans (HDB.out q 34 hc)
      clear hc
      go_wp2_with fail
      go_quiet (fail)
      go_wp2
      go_end0
      have hb1 : Below b w (wr.drewN nq) := ⟨hbel.os, hbel.tape, hbel.output, hbel.size, hbel.block⟩
      refine ⟨rfl, hb1.setCell (p := ⟨b, 1, none⟩) (Nat.le_refl _) _, cell_set_eq (w := wr.drewN nq) hp', ?_⟩
      rw [cell_set_ne (by omega)]; exact hd'
    | succ f' =>
      obtain ⟨c, hc, hne, hrun⟩ := hrun
      have hcc : wr.cell? ⟨g, q, none⟩ = some (.int .u8 c) := (hbel.cell (p := ⟨g, q, none⟩) hg).trans (HDB.out q c hc)
      have hb34 : (c != 34) = true := by rw [bne_iff_ne]; exact hne
      clear hc hne
      by_cases h92 : c = 92
      · rw [if_pos h92] at hrun
        have HRn : Hid (Runs D f' (q + 2) e) := hrun
        have hb92 : (c == 92) = true := by simp [h92]
        clear h92 hrun
        go_wp2_with fail
        go_quiet (fail)
        go_wp2_with fail
        go_quiet (fail)
        go_wp2
        have hb1 : ∀ N, Below b w (wr.drewN N) := fun N => ⟨hbel.os, hbel.tape, hbel.output, hbel.size, hbel.block⟩
        have hs1 := fun N => set1 (X := wr.drewN N) (v := .int .i64 ((q : Int) + 1)) (hb1 N) hd' hp' hf'
        have hs2 := fun N => set1 (v := .int .i64 ((q : Int) + 1 + 1)) (hs1 N).1 (hs1 N).2.1 (hs1 N).2.2.1 (hs1 N).2.2.2
        go_roundw
        case rel =>
          obtain ⟨t1, t2, t3, t4⟩ := hs2 _
          exact ⟨f', q + 2, HRn.out, t1, t2, by rw [t3]; go_num, t4⟩
        case measure => exact meas (hs2 _).2.2.1 HPQ.out (by omega) hqe.1
      · rw [if_neg h92] at hrun
        have HRn : Hid (Runs D f' (q + 1) e) := hrun
        have hb92 : (c == 92) = false := by simp [h92]
        clear h92 hrun
        go_wp2_with fail
        go_quiet (fail)
        go_wp2_with fail
        go_quiet (fail)
        go_wp2
        have hb1 : ∀ N, Below b w (wr.drewN N) := fun N => ⟨hbel.os, hbel.tape, hbel.output, hbel.size, hbel.block⟩
        have hs1 := fun N => set1 (X := wr.drewN N) (v := .int .i64 ((q : Int) + 1)) (hb1 N) hd' hp' hf'
        go_roundw
        case rel =>
          obtain ⟨t1, t2, t3, t4⟩ := hs1 _
          exact ⟨f', q + 1, HRn.out, t1, t2, by rw [t3]; go_num, t4⟩
        case measure => exact meas (hs1 _).2.2.1 HPQ.out (by omega) hqe.1

theorem skip20 (b g n : Nat) (D : List Int) (p f e : Nat) (w : World) (hd : w.cell? ⟨b, 0, none⟩ = some (.slice (some ⟨g, 0, none⟩) n n)) (hp : w.cell? ⟨b, 1, none⟩ = some (.int .i64 p)) (hf : w.frozen? ⟨b, 1, none⟩ = false)
    (hg : g < b) (hD : w.heap[g]? = some (.cells (D.map (Value.int .u8)).toArray 5 (0, 0))) (hn : D.length = n) (hn21 : n ≤ 2097152) (hr : Runs D f (p + 1) e) :
    Calls Try.prog 20 #[.pointer (some ⟨b, 0, none⟩)] w fun r w' => r = .returned (.tuple #[]) ∧ Below b w w' ∧ w'.cell? ⟨b, 1, none⟩ = some (.int .i64 (e + 1)) ∧ w'.cell? ⟨b, 0, none⟩ = some (.slice (some ⟨g, 0, none⟩) n n) := by
  have H : Hid (Calls Try.prog 27 #[.pointer (some ⟨b, 0, none⟩)] w fun r w' => r = .returned (.tuple #[]) ∧ Below b w w' ∧ w'.cell? ⟨b, 1, none⟩ = some (.int .i64 (e + 1)) ∧ w'.cell? ⟨b, 0, none⟩ = some (.slice (some ⟨g, 0, none⟩) n n)) :=
    skip27 b g n D p f e w hd hp hf hg hD hn hn21 hr
  clear hd hp hf hD hr hn
  go_enter Try.func20, Try.ntmps20
  go_wp2_with (go_at_call 27; refine H.out.mono ?_; rintro e w' ⟨rfl, h1, h2, h3⟩)
  go_end0
  exact ⟨rfl, h1, h2, h3⟩

theorem make19 (v : Value) (p : Int) (w : World) (a : Option Addr) (n c : Nat) (hv : v = .slice a n c) :
    Calls Try.prog 19 #[v, .int .i64 p] w fun r w' => r = .returned (.pointer (some ⟨w.heap.size, 0, none⟩)) ∧ Below w.heap.size w w' ∧ w'.heap[w.heap.size]? = some (.cells [v, .int .i64 p, .slice none 0 0].toArray 48 (0, 0)) := by
  subst hv
  go_enter Try.func19, Try.ntmps19
  go_wp2
  go_ret
  exact ⟨rfl, (Below.refl _ _).alloc (Nat.le_refl _) _, blk_new _ _⟩

theorem pos21 (b : Nat) (p : Int) (w : World) (hp : w.cell? ⟨b, 1, none⟩ = some (.int .i64 p)) :
    Calls Try.prog 21 #[.pointer (some ⟨b, 0, none⟩)] w fun r w' => r = .returned (.int .i64 p) ∧ w' = w := by
  go_enter Try.func21, Try.ntmps21
  go_wp2
  go_ret
  exact ⟨rfl, rfl⟩

theorem data22 (b : Nat) (a : Option Addr) (n c : Nat) (w : World) (hp : w.cell? ⟨b, 0, none⟩ = some (.slice a n c)) :
    Calls Try.prog 22 #[.pointer (some ⟨b, 0, none⟩)] w fun r w' => r = .returned (.slice a n c) ∧ w' = w := by
  go_enter Try.func22, Try.ntmps22
  go_wp2
  go_ret
  exact ⟨rfl, rfl⟩
end Go.Proofs.Qxb6601629a
