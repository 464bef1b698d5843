/-
  The walk of FnPlatformStringSplitRoundTrip, out of the contracts.
-/
import Derived.Test.Qxb6601823aMore
namespace Go.Proofs.Qxb6601823a
open Go.RowKit
set_option linter.unusedVariables false
attribute [local go_sem] bs_toList bs_size

theorem text_len (os arch variant : Str) : (text os arch variant).length ≤ os.length + arch.length + variant.length + 2 := by
  unfold text
  split <;> simp <;> omega

set_option maxRecDepth 100000 in
set_option maxHeartbeats 2000000 in
theorem law_any (w : World) (arch os ver variant : Str) (v3 v5 : Value) (l3 l5 : List Str) (h3 : SV w v3 l3) (h5 : SV w v5 l5)
    (ha : arch.length ≤ maxLen) (ho : os.length ≤ maxLen) (hv : ver.length ≤ maxLen) (hvr : variant.length ≤ maxLen) :
    Calls Try.prog 3 #[.string (bs arch), .string (bs os), .string (bs ver), v3, .string (bs variant), v5] w fun e w' => e = .returned (.bool true) ∧ Below w.heap.size w w' := by
  go_enter Try.func3, Try.ntmps3
  go_wp2_with fail
  refine (bytes_any w arch os ver variant v3 v5 l3 l5 h3 h5 ha ho hv hvr).mono ?_
  rintro e w1 ⟨r1, rfl, hw, hr1⟩
  subst hw
  cases r1 with
  | false =>
    go_wp2_with fail
    go_ret
    exact ⟨rfl, Below.refl _ _⟩
  | true =>
    have HSM := hide (hr1 rfl)
    clear hr1
    go_wp2_with fail
    refine (size_any _ arch os ver variant v3 v5 l3 l5 h3 h5).mono ?_
    rintro e w2 ⟨r2, rfl, hw⟩
    subst hw
    by_cases hcap : 1048576 < r2
    · go_wp2_with fail
      go_ret
      exact ⟨rfl, Below.refl _ _⟩
    go_wp2_with fail
    refine (noSlash_any _ arch ha).mono ?_
    rintro e w3 ⟨rfl, hw⟩
    subst hw
    by_cases ca : (47 : UInt8) ∈ arch
    · rw [decide_eq_false (by simpa using ca)]
      clear ca
      go_wp2_with fail
      go_ret
      exact ⟨rfl, Below.refl _ _⟩
    rw [decide_eq_true (by simpa using ca)]
    have HCA := hide ca
    clear ca
    go_wp2_with fail
    refine (noSlash_any _ os ho).mono ?_
    rintro e w3 ⟨rfl, hw⟩
    subst hw
    by_cases co : (47 : UInt8) ∈ os
    · rw [decide_eq_false (by simpa using co)]
      clear co
      go_wp2_with fail
      go_ret
      exact ⟨rfl, Below.refl _ _⟩
    rw [decide_eq_true (by simpa using co)]
    have HCO := hide co
    clear co
    go_wp2_with fail
    refine (noSlash_any _ variant hvr).mono ?_
    rintro e w3 ⟨rfl, hw⟩
    subst hw
    by_cases cv : (47 : UInt8) ∈ variant
    · rw [decide_eq_false (by simpa using cv)]
      clear cv
      go_wp2_with fail
      go_ret
      exact ⟨rfl, Below.refl _ _⟩
    rw [decide_eq_true (by simpa using cv)]
    have HCV := hide cv
    clear cv
    go_wp2_with fail
    refine (clone_any _ v3 l3 h3 HSM.out.l3).mono ?_
    rintro e w4 ⟨u3, rfl, hu3, hb4⟩
    have h54 := h5.below hb4
    go_wp2_with fail
    refine (clone_any _ v5 l5 h54 HSM.out.l5).mono ?_
    rintro e w5 ⟨u5, rfl, hu5, hb5⟩
    have hB5 := hb4.trans (hb5.mono hb4.size)
    obtain ⟨a3, c3, rfl⟩ := hu3.len
    obtain ⟨a5, c5, rfl⟩ := hu5.len
    go_wp2_with fail
    refine (make_any _ arch os ver variant a3 a5 _ _ c3 c5).mono ?_
    rintro e w6 ⟨rfl, hb6⟩
    have hB6 := hB5.trans (hb6.mono hB5.size)
    clear hu3 hu5 hb4 hb5 hb6 hB5 h54
    go_wp2_with fail
    refine (string_any _ arch os ver variant a3 a5 _ _ c3 c5 HSM.out.arch HSM.out.os HSM.out.variant).mono ?_
    rintro e w7 ⟨rfl, hb7⟩
    have hB7 : Below w3.heap.size w3 w7 := (hB6.alloc hB6.size _).trans (hb7.mono (by have := hB6.size; simp; omega))
    clear hb7 hB6
    have htl := text_len os arch variant
    have hs1 := HSM.out.arch
    have hs2 := HSM.out.os
    have hs3 := HSM.out.variant
    go_wp2_with fail
    refine (split_any _ _ (by omega)).mono ?_
    rintro e w8 ⟨pv, rfl, hpv, hb8⟩
    have hB8 := hB7.trans (hb8.mono hB7.size)
    clear hb8 hB7 htl hs1 hs2 hs3
    by_cases hve : variant = []
    · have hq : variant.isEmpty = true := by simp [hve]
      rw [hve, split_text2 HCO.out HCA.out] at hpv
      clear hve
      obtain ⟨pa, pc, hpe⟩ := hpv.len
      have hpe : pv = .slice pa 2 pc := hpe
      subst hpe
      obtain ⟨b0, o0, s0, rfl, _, HS0, _, hc0⟩ := hpv.get (k := 0) (by simp)
      obtain ⟨b1, o1, s1, e1, _, HS1, _, hc1⟩ := hpv.get (k := 1) (by simp)
      cases e1
      rw [Nat.add_zero] at hc0
      have e0 : s0 = os := HS0.out
      have e1 : s1 = arch := HS1.out
      subst e0 e1
      have hq0 : (s0 == s0) = true := by simp
      have hq1 : (s1 == s1) = true := by simp
      go_wp2_with fail
      go_ret
      exact ⟨rfl, hB8⟩
    · have hq : variant.isEmpty = false := by simp [hve]
      rw [split_text3 hve HCO.out HCA.out HCV.out] at hpv
      clear hve
      obtain ⟨pa, pc, hpe⟩ := hpv.len
      have hpe : pv = .slice pa 3 pc := hpe
      subst hpe
      obtain ⟨b0, o0, s0, rfl, _, HS0, _, hc0⟩ := hpv.get (k := 0) (by simp)
      rw [Nat.add_zero] at hc0
      obtain ⟨b1, o1, s1, e1, _, HS1, _, hc1⟩ := hpv.get (k := 1) (by simp)
      obtain ⟨b2, o2, s2, e2, _, HS2, _, hc2⟩ := hpv.get (k := 2) (by simp)
      cases e1
      cases e2
      have e0 : s0 = os := HS0.out
      have e1 : s1 = arch := HS1.out
      have e2 : s2 = variant := HS2.out
      subst e0 e1 e2
      have hq0 : (s0 == s0) = true := by simp
      have hq1 : (s1 == s1) = true := by simp
      have hq2 : (s2 == s2) = true := by simp
      go_wp2_with fail
      go_ret
      exact ⟨rfl, hB8⟩

end Go.Proofs.Qxb6601823a
