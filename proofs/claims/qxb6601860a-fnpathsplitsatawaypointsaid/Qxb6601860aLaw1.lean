/-
  The walk of FnPathFollowsParentsBackToStart, out of the contracts.
-/
import Derived.Test.Qxb6601860aWalk1
namespace Go.Proofs.Qxb6601860a
open Go.RowKit
set_option linter.unusedVariables false

set_option maxHeartbeats 400000 in
theorem zzpath_any (w : World) (tv v1 : Value) (s e : Int) (tx par l : List Int) (h0 : IV w tv tx) (h1 : IV w v1 par) (hp : par.length ≤ 65536) (hT : tx.length ≤ 65536) (hs : 0 ≤ s ∧ s < tx.length) (hway : Way par tx.length s e l) (hl : l.length ≤ par.length) :
    Calls Try.prog 14 #[tv, v1, .int .i64 s, .int .i64 e] w fun en w' => ∃ u, en = .returned u ∧ IV w' u (pathOf tx s l) ∧ Below w.heap.size w w' := by
  obtain ⟨a0, c0, rfl⟩ := h0.len
  obtain ⟨a1, c1, rfl⟩ := h1.len
  have HS := hide hs
  have HW := hide hway
  clear hs hway
  go_enter Try.func14, Try.ntmps14
  go_wp2_with fail
  have hbA : Below w.heap.size w (w.alloc (Obj.cells #[Value.slice a0 tx.length c0, Value.slice none 0 0] 50)) := (Below.refl _ _).alloc (Nat.le_refl _) _
  refine (path_any _ w.heap.size _ _ s e tx par l (by simp [go_sem]) (h0.below hbA) (h1.below hbA) hp hT HS.out HW.out hl).mono ?_
  rintro en w2 ⟨u, rfl, hu, hb2⟩
  have hB := hbA.trans (hb2.mono hbA.size)
  clear hb2
  go_wp2_with fail
  go_ret
  exact ⟨_, rfl, hu, hB⟩

theorem path_get {tx : List Int} {s n : Int} {r : List Int} (k : Nat) (hk : k < r.length + 1) : (pathOf tx s (n :: r)).getD k 0 = (pathOf tx s r).getD k 0 := by
  rw [pathOf_cons, List.getD, List.getElem?_append_left (by rw [pathOf_length]; exact hk)]
  rfl

theorem path_get_last {tx : List Int} {s n : Int} {r : List Int} : (pathOf tx s (n :: r)).getD (r.length + 1) 0 = tx.getD n.toNat 0 := by
  rw [pathOf_cons, List.getD, ← pathOf_length tx s r, List.getElem?_append_right (Nat.le_refl _), Nat.sub_self]
  rfl

set_option maxRecDepth 100000 in
set_option maxHeartbeats 2000000 in
theorem law1_any (w : World) (v0 v1 : Value) (s e : Int) (tx par : List Int) (h0 : IV w v0 tx) (h1 : IV w v1 par) :
    Calls Try.prog 4 #[v0, v1, .int .i64 s, .int .i64 e] w fun en w' => en = .returned (.bool true) ∧ Below w.heap.size w w' := by
  obtain ⟨a0, c0, rfl⟩ := h0.len
  obtain ⟨a1, c1, rfl⟩ := h1.len
  have hl0 := h0.le
  have hl1 := h1.le
  go_enter Try.func4, Try.ntmps4
  go_wp2_with fail
  refine (bytes1_any w _ _ s e tx par h0 h1).mono ?_
  rintro en w1 ⟨r1, rfl, hw⟩
  subst hw
  cases r1 with
  | false =>
    go_wp2_with fail
    go_ret
    exact ⟨rfl, Below.refl _ _⟩
  | true =>
    by_cases hT : 65536 < tx.length
    · have hb : (65536 : Int) < (tx.length : Int) := by omega
      go_wp2_with fail
      go_ret
      exact ⟨rfl, Below.refl _ _⟩
    by_cases hP : 65536 < par.length
    · have hb : ¬ (65536 : Int) < (tx.length : Int) := by omega
      have hb2 : (65536 : Int) < (par.length : Int) := by omega
      go_wp2_with fail
      go_ret
      exact ⟨rfl, Below.refl _ _⟩
    have hT' : tx.length ≤ 65536 := by omega
    have hP' : par.length ≤ 65536 := by omega
    clear hT hP
    go_wp2_with fail
    refine (reaches_any _ _ tx.length s e par h1 hT' hP').mono ?_
    rintro en w1 ⟨r2, rfl, hw, hreach⟩
    subst hw
    cases r2 with
    | false =>
      go_wp2_with fail
      go_ret
      exact ⟨rfl, Below.refl _ _⟩
    | true =>
      obtain ⟨hs0, hs1, l, hll, hway⟩ := hreach rfl
      have HW := hide hway
      have HS := hide (show 0 ≤ s ∧ s < tx.length from ⟨hs0, hs1⟩)
      clear hreach hway
      go_wp2_with fail
      refine (clone_any _ _ tx h0 hT').mono ?_
      rintro en w2 ⟨u0, rfl, hu0, hb2⟩
      have h1' := h1.below hb2
      go_wp2_with fail
      refine (clone_any _ _ par h1' hP').mono ?_
      rintro en w3 ⟨u1, rfl, hu1, hb3⟩
      have hu0' := hu0.below hb3
      have hB3 := hb2.trans (hb3.mono hb2.size)
      clear h0 h1 h1' hu0 hb2 hb3
      go_wp2_with fail
      refine (zzpath_any _ _ _ s e tx par l hu0' hu1 hP' hT' HS.out HW.out hll).mono ?_
      rintro en w4 ⟨ov, rfl, hov, hb4⟩
      have hu0 := hu0'.below hb4
      have hu1' := hu1.below hb4
      have hB4 := hB3.trans (hb4.mono hB3.size)
      clear hu0' hu1 hb4 hB3
      obtain ⟨ta, tc, rfl⟩ := hu0.len
      obtain ⟨pa, pc, rfl⟩ := hu1'.len
      obtain ⟨oa, oc, hoe⟩ := hov.len
      rw [pathOf_length] at hoe
      subst hoe
      by_cases hes : e = s
      · have hb : (e == s) = true := by simp [hes]
        have hln : l = [] := by rw [hes] at HW; exact HW.out.goal_nil
        subst hln
        rw [pathOf_nil] at hov
        clear hes
        obtain ⟨sn, rfl⟩ := Int.eq_ofNat_of_zero_le hs0
        obtain ⟨b, off, z, rfl, _, HZ, _, _, hck⟩ := hov.get (k := 0) (by simp)
        obtain ⟨b2, off2, t, rfl, _, HT, _, _, hct⟩ := hu0.get (k := sn) (by omega)
        rw [Nat.add_zero] at hck
        have hzt : (z == t) = true := by
          rw [HZ.out, HT.out]
          simp
        go_wp2_with fail
        go_quiet (fail)
        go_wp2_with fail
        go_ret
        exact ⟨rfl, below_drewN hB4 _⟩
      · have hb : (e == s) = false := by simp [hes]
        obtain ⟨r, rfl, he0, he1, he2, hnext⟩ := HW.out.step hes
        have hng := hnext.range HS.out
        have HNEXT := hide hnext
        clear hes HW hnext
        obtain ⟨en, rfl⟩ := Int.eq_ofNat_of_zero_le he0
        obtain ⟨bp, offp, z, rfl, _, HZ, _, _, hcp⟩ := hu1'.get (k := en) (by omega)
        rw [Int.toNat_natCast, ← HZ.out] at hng
        rw [Int.toNat_natCast, ← HZ.out] at HNEXT
        obtain ⟨hng1, hng2⟩ := hng
        simp only [List.length_cons] at hll
        go_wp2_with fail
        refine (zzpath_any _ _ _ s (z - 1) tx par r hu0 hu1' hP' hT' HS.out HNEXT.out (by omega)).mono ?_
        rintro en' w5 ⟨bv, rfl, hbv, hb5⟩
        have hov5 := hov.below hb5
        have hu05 := hu0.below hb5
        have hB5 := hB4.trans (hb5.mono hB4.size)
        clear hov hu0 hb5 hB4 hu1' hcp
        obtain ⟨ba, bc, hbe⟩ := hbv.len
        rw [pathOf_length] at hbe
        subst hbe
        go_wp2_with fail
        go_loopg [11] (r.length + 1) (fun g i wr => ∃ k : Nat, k ≤ r.length + 1 ∧ g = r.length + 1 - k ∧ i = .int .i64 k ∧ Below w5.heap.size w5 wr)
        case atStart => exact ⟨0, by omega, by omega, rfl, Below.refl _ _⟩
        case round =>
          obtain ⟨k, hk, rfl, rfl, hnx⟩ := hrel
          have hovr := hov5.below hnx
          have hbvr := hbv.below hnx
          have hu0r := hu05.below hnx
          by_cases hlt : k < r.length + 1
          · obtain ⟨b, off, x, rfl, _, HX, _, _, hcx⟩ := hovr.get (k := k) (by rw [pathOf_length]; simp; omega)
            obtain ⟨b2, off2, y, rfl, _, HY, _, _, hcy⟩ := hbvr.get (k := k) (by rw [pathOf_length]; omega)
            have hxy : x = y := by rw [HX.out, HY.out]; exact path_get k hlt
            subst hxy
            have hbb : (x != x) = false := by simp
            go_wp2_with fail
            go_quiet (fail)
            go_wp2_with fail
            go_roundg (r.length + 1 - (k + 1))
            case measure => omega
            case rel => exact ⟨k + 1, by omega, rfl, by go_num, below_drewN hnx _⟩
          · obtain ⟨b, off, x, rfl, _, HX, _, _, hcx⟩ := hovr.get (k := r.length + 1) (by rw [pathOf_length]; simp)
            obtain ⟨b2, off2, y, rfl, _, HY, _, _, hcy⟩ := hu0r.get (k := en) (by omega)
            have hxy : x = y := by rw [HX.out, HY.out, path_get_last, Int.toNat_natCast]
            subst hxy
            have hbb : (x == x) = true := by simp
            go_wp2_with fail
            go_quiet (fail)
            go_wp2_with fail
            go_ret
            exact ⟨rfl, below_drewN (hB5.trans (hnx.mono hB5.size)) _⟩

end Go.Proofs.Qxb6601860a
