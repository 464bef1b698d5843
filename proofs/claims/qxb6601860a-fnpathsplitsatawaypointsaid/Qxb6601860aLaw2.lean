/-
  The walk of FnPathSplitsAtAWayPoint, out of the contracts.
-/
import Derived.Test.Qxb6601860aLaw1
namespace Go.Proofs.Qxb6601860a
open Go.RowKit
set_option linter.unusedVariables false

theorem whole_left {tx : List Int} {s m : Int} {l1 l2 : List Int} (k : Nat) (hk : k < l2.length + 1) : (pathOf tx s (l1 ++ l2)).getD k 0 = (pathOf tx s l2).getD k 0 := by
  rw [pathOf_split tx s m, List.getD, List.getElem?_append_left (by rw [pathOf_length]; exact hk)]
  rfl

theorem whole_right {par tx : List Int} {nT : Nat} {s m : Int} {l1 l2 : List Int} (hw : Way par nT s m l2) (k : Nat) (hk : k < l1.length + 1) : (pathOf tx s (l1 ++ l2)).getD (l2.length + k) 0 = (pathOf tx m l1).getD k 0 := by
  rw [pathOf_split tx s m, List.getD, List.getD]
  cases k with
  | zero =>
    rw [Nat.add_zero, List.getElem?_append_left (by rw [pathOf_length]; omega), pathOf_last hw]
    rfl
  | succ k =>
    rw [List.getElem?_append_right (by rw [pathOf_length]; omega), pathOf_length, show l2.length + (k + 1) - (l2.length + 1) = k by omega, List.getElem?_tail]

set_option maxRecDepth 100000 in
set_option maxHeartbeats 2000000 in
theorem law2_any (w : World) (v0 v1 : Value) (s m e : Int) (tx par : List Int) (h0 : IV w v0 tx) (h1 : IV w v1 par) :
    Calls Try.prog 5 #[v0, v1, .int .i64 s, .int .i64 m, .int .i64 e] w fun en w' => en = .returned (.bool true) ∧ Below w.heap.size w w' := by
  obtain ⟨a0, c0, rfl⟩ := h0.len
  obtain ⟨a1, c1, rfl⟩ := h1.len
  have hl0 := h0.le
  have hl1 := h1.le
  go_enter Try.func5, Try.ntmps5
  go_wp2_with fail
  refine (bytes2_any w _ _ s m e tx par h0 h1).mono ?_
  rintro en w1 ⟨r1, rfl, hw⟩
  subst hw
  cases r1 with
  | false =>
    go_wp2_with fail
    go_ret
    exact ⟨rfl, Below.refl _ _⟩
  | true =>
    by_cases hT : 65536 < tx.length
    · have hb : (65536 : Int) < (tx.length : Int) := by omega
      go_wp2_with fail
      go_ret
      exact ⟨rfl, Below.refl _ _⟩
    by_cases hP : 65536 < par.length
    · have hb : ¬ (65536 : Int) < (tx.length : Int) := by omega
      have hb2 : (65536 : Int) < (par.length : Int) := by omega
      go_wp2_with fail
      go_ret
      exact ⟨rfl, Below.refl _ _⟩
    have hT' : tx.length ≤ 65536 := by omega
    have hP' : par.length ≤ 65536 := by omega
    clear hT hP
    go_wp2_with fail
    refine (reaches_any _ _ tx.length s e par h1 hT' hP').mono ?_
    rintro en w1 ⟨r2, rfl, hw, hreach⟩
    subst hw
    cases r2 with
    | false =>
      go_wp2_with fail
      go_ret
      exact ⟨rfl, Below.refl _ _⟩
    | true =>
      obtain ⟨hs0, hs1, l, hll, hway⟩ := hreach rfl
      have HW := hide hway
      have HS := hide (show 0 ≤ s ∧ s < tx.length from ⟨hs0, hs1⟩)
      clear hreach hway
      go_wp2_with fail
      refine (onTheWay_any _ _ tx.length s m e par l h1 hT' hP' HS.out HW.out hll).mono ?_
      rintro en w1 ⟨r3, rfl, hw, hmid⟩
      subst hw
      cases r3 with
      | false =>
        go_wp2_with fail
        go_ret
        exact ⟨rfl, Below.refl _ _⟩
      | true =>
        obtain ⟨l1, l2, rfl, hw1, hw2⟩ := hmid rfl
        have HW1 := hide hw1
        have HW2 := hide hw2
        have HMR := hide (hw2.range HS.out)
        clear hmid hw1 hw2
        rw [List.length_append] at hll
        go_wp2_with fail
        refine (clone_any _ _ tx h0 hT').mono ?_
        rintro en w2 ⟨u0, rfl, hu0, hb2⟩
        have h1' := h1.below hb2
        go_wp2_with fail
        refine (clone_any _ _ par h1' hP').mono ?_
        rintro en w3 ⟨u1, rfl, hu1, hb3⟩
        have hu0' := hu0.below hb3
        have hB3 := hb2.trans (hb3.mono hb2.size)
        clear h0 h1 h1' hu0 hb2 hb3
        go_wp2_with fail
        refine (zzpath_any _ _ _ s e tx par (l1 ++ l2) hu0' hu1 hP' hT' HS.out HW.out (by rw [List.length_append]; omega)).mono ?_
        rintro en w4 ⟨wv, rfl, hwv, hb4⟩
        have hu0 := hu0'.below hb4
        have hu1' := hu1.below hb4
        have hB4 := hB3.trans (hb4.mono hB3.size)
        clear hu0' hu1 hb4 hB3
        go_wp2_with fail
        refine (zzpath_any _ _ _ s m tx par l2 hu0 hu1' hP' hT' HS.out HW2.out (by omega)).mono ?_
        rintro en w5 ⟨lv, rfl, hlv, hb5⟩
        have hu05 := hu0.below hb5
        have hu15 := hu1'.below hb5
        have hwv5 := hwv.below hb5
        have hB5 := hB4.trans (hb5.mono hB4.size)
        clear hu0 hu1' hb5 hB4 hwv
        go_wp2_with fail
        refine (zzpath_any _ _ _ m e tx par l1 hu05 hu15 hP' hT' HMR.out HW1.out (by omega)).mono ?_
        rintro en w6 ⟨rv, rfl, hrv, hb6⟩
        have hwv6 := hwv5.below hb6
        have hlv6 := hlv.below hb6
        have hB6 := hB5.trans (hb6.mono hB5.size)
        clear hu05 hu15 hb6 hB5 hwv5 hlv HW HW1
        obtain ⟨wa, wc, hwe⟩ := hwv6.len
        obtain ⟨la, lc, hle⟩ := hlv6.len
        obtain ⟨ra, rc, hre⟩ := hrv.len
        rw [pathOf_length, List.length_append] at hwe
        rw [pathOf_length] at hle hre
        subst hwe hle hre
        obtain ⟨n1, hn1⟩ : ∃ n1, Hid (l1.length = n1) := ⟨_, rfl⟩
        obtain ⟨n2, hn2⟩ : ∃ n2, Hid (l2.length = n2) := ⟨_, rfl⟩
        rw [hn1.out, hn2.out] at hwv6
        rw [hn2.out] at hlv6
        rw [hn1.out] at hrv
        rw [hn1.out, hn2.out] at hll
        rw [hn1.out, hn2.out]
        have hq1 : (((n2 : Int) + 1) == 0) = false := by rw [beq_eq_false_iff_ne]; omega
        have hq2 : (((n1 : Int) + 1) == 0) = false := by rw [beq_eq_false_iff_ne]; omega
        go_wp2_with fail
        go_loopg [14] (n2 + 1) (fun g i wr => ∃ k : Nat, k ≤ n2 + 1 ∧ g = n2 + 1 - k ∧ i = .int .i64 k ∧ Below w6.heap.size w6 wr)
        case atStart => exact ⟨0, by omega, by omega, rfl, Below.refl _ _⟩
        case round =>
          obtain ⟨k, hk, rfl, rfl, hnx⟩ := hrel
          have hwvr := hwv6.below hnx
          have hlvr := hlv6.below hnx
          by_cases hlt : k < n2 + 1
          · obtain ⟨b, off, x, rfl, _, HX, _, _, hcx⟩ := hwvr.get (k := k) (by rw [pathOf_length, List.length_append, hn1.out, hn2.out]; omega)
            obtain ⟨b2, off2, y, rfl, _, HY, _, _, hcy⟩ := hlvr.get (k := k) (by rw [pathOf_length, hn2.out]; omega)
            have hxy : x = y := by rw [HX.out, HY.out]; exact whole_left (m := m) k (by rw [hn2.out]; exact hlt)
            subst hxy
            have hbb : (x != x) = false := by simp
            go_wp2_with fail
            go_quiet (fail)
            go_wp2_with fail
            go_roundg (n2 + 1 - (k + 1))
            case measure => omega
            case rel => exact ⟨k + 1, by omega, rfl, by go_num, below_drewN hnx _⟩
          · have hB7 := hB6.trans (hnx.mono hB6.size)
            clear hlvr
            go_wp2_with fail
            go_loopg [15] (n1 + 1) (fun g i w8 => ∃ j : Nat, j ≤ n1 + 1 ∧ g = n1 + 1 - j ∧ i = .int .i64 j ∧ Below wr.heap.size wr w8)
            case atStart => exact ⟨0, by omega, by omega, rfl, Below.refl _ _⟩
            case round =>
              rename World => w8
              obtain ⟨j, hj, rfl, rfl, hnx8⟩ := hrel
              have hwv8 := hwvr.below hnx8
              have hrv8 := (hrv.below hnx).below hnx8
              by_cases hlt2 : j < n1 + 1
              · obtain ⟨b, off, x, rfl, _, HX, _, _, hcx⟩ := hwv8.get (k := n2 + j) (by rw [pathOf_length, List.length_append, hn1.out, hn2.out]; omega)
                obtain ⟨b2, off2, y, rfl, _, HY, _, _, hcy⟩ := hrv8.get (k := j) (by rw [pathOf_length, hn1.out]; omega)
                have hxy : x = y := by
                  rw [HX.out, HY.out, ← hn2.out]
                  exact whole_right HW2.out j (by rw [hn1.out]; exact hlt2)
                subst hxy
                have hbb : (x != x) = false := by simp
                go_wp2_with fail
                go_quiet (fail)
                go_wp2_with fail
                go_roundg (n1 + 1 - (j + 1))
                case measure => omega
                case rel => exact ⟨j + 1, by omega, rfl, by go_num, below_drewN hnx8 _⟩
              · go_wp2_with fail
                go_ret
                exact ⟨rfl, hB7.trans (hnx8.mono hB7.size)⟩

end Go.Proofs.Qxb6601860a
