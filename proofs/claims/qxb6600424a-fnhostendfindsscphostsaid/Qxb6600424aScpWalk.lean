import Derived.Test.Qxb6600424aScp
namespace Go.Proofs.Qxb6600424a
open Go.ChangeShapes Go.WideShapes Go.ChangeAt Go.RowKit
set_option linter.unusedVariables false

theorem hide {p : Prop} (h : p) : Hid p := h

theorem ret_true {x y : Int} (h : x = y) : Ending.returned (.bool (x == y)) = .returned (.bool true) := by rw [h]; simp

/-- A bool came back. -/
def IsB (e : Ending) : Prop := e = .returned (.bool true) ∨ e = .returned (.bool false)

theorem bytes10 (a b c : ByteArray) (p q : Bool) (w : World) (ha : a.size ≤ maxLen) (hb : b.size ≤ maxLen) (hc : c.size ≤ maxLen) :
    Calls Try.prog 10 #[.string a, .string b, .string c, .bool p, .bool q] w fun e w' => IsB e ∧ w' = w := by
  unfold maxLen at ha hb hc
  generalize hsa : a.size = l0 at ha
  generalize hsb : b.size = l1 at hb
  generalize hsc : c.size = l2 at hc
  by_cases k0 : l0 ≤ 1048576
  · by_cases k1 : l1 ≤ 1048576
    · by_cases s1 : l0 + l1 ≤ 1048576
      · by_cases k2 : l2 ≤ 1048576
        · by_cases s2 : l0 + l1 + l2 ≤ 1048576
          · go_enter Try.func10, Try.ntmps10
            go_wp2
            go_ret
            exact ⟨Or.inl rfl, rfl⟩
          · go_enter Try.func10, Try.ntmps10
            go_wp2
            go_ret
            exact ⟨Or.inr rfl, rfl⟩
        · go_enter Try.func10, Try.ntmps10
          go_wp2
          go_ret
          exact ⟨Or.inr rfl, rfl⟩
      · go_enter Try.func10, Try.ntmps10
        go_wp2
        go_ret
        exact ⟨Or.inr rfl, rfl⟩
    · go_enter Try.func10, Try.ntmps10
      go_wp2
      go_ret
      exact ⟨Or.inr rfl, rfl⟩
  · go_enter Try.func10, Try.ntmps10
    go_wp2
    go_ret
    exact ⟨Or.inr rfl, rfl⟩

set_option maxHeartbeats 1000000 in
theorem scp_any (a : ByteArray) (b : ByteArray) (c : ByteArray) (p q : Bool) (ha : a.size ≤ maxLen) (hb : b.size ≤ maxLen) (hc : c.size ≤ maxLen) (w : World) :
    Calls Try.prog 5 #[.string a, .string b, .string c, .bool p, .bool q] w fun e w' => e = .returned (.bool true) ∧ Grown w w' := by
  have HB : Hid (Calls Try.prog 10 #[.string a, .string b, .string c, .bool p, .bool q] w fun e w' => IsB e ∧ w' = w) := bytes10 a b c p q w ha hb hc
  by_cases ka : a.size ≤ 262144
  · by_cases kb : b.size ≤ 262144
    · by_cases kc : c.size ≤ 524288
      · have HPa : Hid (Calls Try.prog 11 #[.string a] w fun e w' => PlainRes a e ∧ w' = w) := plain11 a w (by omega)
        have HPb : Hid (Calls Try.prog 11 #[.string b] w fun e w' => PlainRes b e ∧ w' = w) := plain11 b w (by omega)
        have HHb : Hid (Calls Try.prog 12 #[.string b, .int .u8 93] w fun e w' => e = .returned (.bool (hasB b.data.toList 93)) ∧ w' = w) := has12 b 93 93 rfl w (by omega)
        go_enter Try.func5, Try.ntmps5
        go_wp2_with fail
        refine HB.out.mono ?_
        rintro e w' ⟨he, hw'⟩
        subst w'
        rcases he with rfl | rfl
        rotate_left
        · go_wp2
          go_ret
          exact ⟨rfl, Grown.refl _⟩
        go_wp2_with fail
        refine HPa.out.mono ?_
        rintro e w' ⟨he, hw'⟩
        subst w'
        rcases he with ⟨rfl, hPa⟩ | rfl
        rotate_left
        · go_wp2
          go_ret
          exact ⟨rfl, Grown.refl _⟩
        have HPA : Hid (Plain a.data.toList) := hPa
        clear hPa HPa HB
        cases q with
        | true =>
          go_wp2_with fail
          refine HHb.out.mono ?_
          rintro e w' ⟨rfl, hw'⟩
          subst w'
          cases hx : hasB b.data.toList 93 with
          | true =>
            go_wp2
            go_ret
            exact ⟨rfl, Grown.refl _⟩
          | false =>
            have HX : Hid ((93 : UInt8) ∉ b.data.toList) := hasB_false hx
            clear hx
            cases p with
            | true =>
              have HRS := hide (res_scp_in (a ++ { data := #[64] }) b c (plain_user a HPA.out) HX.out)
              have hsz : (a ++ { data := #[64] } ++ ({ data := #[91] } ++ b ++ { data := #[93] }) ++ { data := #[58] } ++ c).size ≤ maxLen := by
                unfold maxLen
                rw [sz_append, sz_append, sz_append, sz_append, sz_append, sz_append]
                have e64 : ({ data := #[64] } : ByteArray).size = 1 := rfl
                have e91 : ({ data := #[91] } : ByteArray).size = 1 := rfl
                have e93 : ({ data := #[93] } : ByteArray).size = 1 := rfl
                have e58 : ({ data := #[58] } : ByteArray).size = 1 := rfl
                have e0 : ({ data := #[] } : ByteArray).size = 0 := rfl
                omega
              go_wp2_with fail
              refine (host7 _ _ ?_).mono ?_
              · exact hsz
              rintro e W ⟨⟨r, rfl, hr⟩, pp, rfl⟩
              have er := hide (hr.unique HRS.out)
              clear hr HRS hsz
              go_wp2
              go_ret
              refine ⟨?_, grown_iter (Grown.refl w) _ _⟩
              refine ret_true (x := r) (y := (a.size : Int) + 1 + (1 + (b.size : Int) + 1)) ?_
              have h1 := er.out
              have h2 : (a ++ { data := #[64] }).size = a.size + 1 := sz_append a _
              have h3 : ({ data := #[] } : ByteArray).size = 0 := rfl
              omega
            | false =>
              have HRS := hide (res_scp_in ({ data := #[] }) b c plain_none HX.out)
              have hsz : ({ data := #[] } ++ ({ data := #[91] } ++ b ++ { data := #[93] }) ++ { data := #[58] } ++ c).size ≤ maxLen := by
                unfold maxLen
                rw [sz_append, sz_append, sz_append, sz_append, sz_append]
                have e64 : ({ data := #[64] } : ByteArray).size = 1 := rfl
                have e91 : ({ data := #[91] } : ByteArray).size = 1 := rfl
                have e93 : ({ data := #[93] } : ByteArray).size = 1 := rfl
                have e58 : ({ data := #[58] } : ByteArray).size = 1 := rfl
                have e0 : ({ data := #[] } : ByteArray).size = 0 := rfl
                omega
              go_wp2_with fail
              refine (host7 _ _ ?_).mono ?_
              · exact hsz
              rintro e W ⟨⟨r, rfl, hr⟩, pp, rfl⟩
              have er := hide (hr.unique HRS.out)
              clear hr HRS hsz
              go_wp2
              go_ret
              refine ⟨?_, grown_iter (Grown.refl w) _ _⟩
              refine ret_true (x := r) (y := 1 + (b.size : Int) + 1) ?_
              have h1 := er.out
              have h2 : (a ++ { data := #[64] }).size = a.size + 1 := sz_append a _
              have h3 : ({ data := #[] } : ByteArray).size = 0 := rfl
              omega
        | false =>
          go_wp2_with fail
          refine HPb.out.mono ?_
          rintro e w' ⟨he, hw'⟩
          subst w'
          rcases he with ⟨rfl, hPb⟩ | rfl
          rotate_left
          · go_wp2
            go_ret
            exact ⟨rfl, Grown.refl _⟩
          have HPB : Hid (Plain b.data.toList) := hPb
          clear hPb
          cases p with
          | true =>
            have HRS := hide (res_scp_out (a ++ { data := #[64] }) b c (plain_user a HPA.out) HPB.out)
            have hsz : (a ++ { data := #[64] } ++ b ++ { data := #[58] } ++ c).size ≤ maxLen := by
              unfold maxLen
              rw [sz_append, sz_append, sz_append, sz_append]
              have e64 : ({ data := #[64] } : ByteArray).size = 1 := rfl
              have e91 : ({ data := #[91] } : ByteArray).size = 1 := rfl
              have e93 : ({ data := #[93] } : ByteArray).size = 1 := rfl
              have e58 : ({ data := #[58] } : ByteArray).size = 1 := rfl
              have e0 : ({ data := #[] } : ByteArray).size = 0 := rfl
              omega
            go_wp2_with fail
            refine (host7 _ _ ?_).mono ?_
            · exact hsz
            rintro e W ⟨⟨r, rfl, hr⟩, pp, rfl⟩
            have er := hide (hr.unique HRS.out)
            clear hr HRS hsz
            go_wp2
            go_ret
            refine ⟨?_, grown_iter (Grown.refl w) _ _⟩
            refine ret_true (x := r) (y := (a.size : Int) + 1 + (b.size : Int)) ?_
            have h1 := er.out
            have h2 : (a ++ { data := #[64] }).size = a.size + 1 := sz_append a _
            have h3 : ({ data := #[] } : ByteArray).size = 0 := rfl
            omega
          | false =>
            have HRS := hide (res_scp_out ({ data := #[] }) b c plain_none HPB.out)
            have hsz : ({ data := #[] } ++ b ++ { data := #[58] } ++ c).size ≤ maxLen := by
              unfold maxLen
              rw [sz_append, sz_append, sz_append]
              have e64 : ({ data := #[64] } : ByteArray).size = 1 := rfl
              have e91 : ({ data := #[91] } : ByteArray).size = 1 := rfl
              have e93 : ({ data := #[93] } : ByteArray).size = 1 := rfl
              have e58 : ({ data := #[58] } : ByteArray).size = 1 := rfl
              have e0 : ({ data := #[] } : ByteArray).size = 0 := rfl
              omega
            go_wp2_with fail
            refine (host7 _ _ ?_).mono ?_
            · exact hsz
            rintro e W ⟨⟨r, rfl, hr⟩, pp, rfl⟩
            have er := hide (hr.unique HRS.out)
            clear hr HRS hsz
            go_wp2
            go_ret
            refine ⟨?_, grown_iter (Grown.refl w) _ _⟩
            refine ret_true (x := r) (y := (b.size : Int)) ?_
            have h1 := er.out
            have h2 : (a ++ { data := #[64] }).size = a.size + 1 := sz_append a _
            have h3 : ({ data := #[] } : ByteArray).size = 0 := rfl
            omega
      · go_enter Try.func5, Try.ntmps5
        go_wp2_with fail
        refine HB.out.mono ?_
        rintro e w' ⟨he, hw'⟩
        subst w'
        rcases he with rfl | rfl
        all_goals
          go_wp2
          go_ret
          exact ⟨rfl, Grown.refl _⟩
    · go_enter Try.func5, Try.ntmps5
      go_wp2_with fail
      refine HB.out.mono ?_
      rintro e w' ⟨he, hw'⟩
      subst w'
      rcases he with rfl | rfl
      all_goals
        go_wp2
        go_ret
        exact ⟨rfl, Grown.refl _⟩
  · go_enter Try.func5, Try.ntmps5
    go_wp2_with fail
    refine HB.out.mono ?_
    rintro e w' ⟨he, hw'⟩
    subst w'
    rcases he with rfl | rfl
    all_goals
      go_wp2
      go_ret
      exact ⟨rfl, Grown.refl _⟩
end Go.Proofs.Qxb6600424a
