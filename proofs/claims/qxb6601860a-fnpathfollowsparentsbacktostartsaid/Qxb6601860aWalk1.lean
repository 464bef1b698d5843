/-
  Walks: the bounds on lengths, the ways (pathReaches, onTheWay), the path.
-/
import Derived.Test.Qxb6601860aBase
namespace Go.Proofs.Qxb6601860a
open Go.RowKit
set_option linter.unusedVariables false

set_option maxHeartbeats 400000 in
theorem bytes1_any (w : World) (v0 v1 : Value) (s e : Int) (tx par : List Int) (h0 : IV w v0 tx) (h1 : IV w v1 par) :
    Calls Try.prog 12 #[v0, v1, .int .i64 s, .int .i64 e] w fun e w' => ∃ r : Bool, e = .returned (.bool r) ∧ w' = w := by
  obtain ⟨a0, c0, rfl⟩ := h0.len
  obtain ⟨a1, c1, rfl⟩ := h1.len
  have hl0 := h0.le
  have hl1 := h1.le
  go_enter Try.func12, Try.ntmps12
  go_wp2
  all_goals (go_ret; exact ⟨_, rfl, rfl⟩)

set_option maxHeartbeats 400000 in
theorem bytes2_any (w : World) (v0 v1 : Value) (s m e : Int) (tx par : List Int) (h0 : IV w v0 tx) (h1 : IV w v1 par) :
    Calls Try.prog 15 #[v0, v1, .int .i64 s, .int .i64 m, .int .i64 e] w fun e w' => ∃ r : Bool, e = .returned (.bool r) ∧ w' = w := by
  obtain ⟨a0, c0, rfl⟩ := h0.len
  obtain ⟨a1, c1, rfl⟩ := h1.len
  have hl0 := h0.le
  have hl1 := h1.le
  go_enter Try.func15, Try.ntmps15
  go_wp2
  all_goals (go_ret; exact ⟨_, rfl, rfl⟩)

/-- What the test for a way says. -/
def ReachPost (par : List Int) (nT : Nat) (s e : Int) (w : World) (en : Ending) (w' : World) : Prop :=
  ∃ r : Bool, en = .returned (.bool r) ∧ w' = w ∧ (r = true → 0 ≤ s ∧ s < nT ∧ ∃ l, l.length ≤ par.length ∧ Way par nT s e l)

theorem ReachPost.no {par : List Int} {nT : Nat} {s e : Int} {w : World} : ReachPost par nT s e w (.returned (.bool false)) w := ⟨false, rfl, rfl, fun h => by cases h⟩

theorem wrap_way {par : List Int} {nT : Nat} {s : Int} (hnT : nT ≤ 65536) (hs : s < nT) {z : Int} (h1 : -9223372036854775808 ≤ z) (h2 : z ≤ 9223372036854775807) {l : List Int} (h : Way par nT s (wrap64 (z - 1)) l) (h0 : 0 ≤ s) : Way par nT s (z - 1) l := by
  by_cases hz : z = -9223372036854775808
  · have hr := h.range ⟨h0, hs⟩
    exfalso
    subst hz
    unfold wrap64 at hr
    omega
  · have e : wrap64 (z - 1) = z - 1 := by
      unfold wrap64
      omega
    rwa [e] at h

set_option maxHeartbeats 400000 in
theorem reaches_any (w : World) (v1 : Value) (nT : Nat) (s e : Int) (par : List Int) (h1 : IV w v1 par) (hnT : nT ≤ 65536) (hp : par.length ≤ 65536) :
    Calls Try.prog 13 #[v1, .int .i64 nT, .int .i64 s, .int .i64 e] w (ReachPost par nT s e w) := by
  obtain ⟨a1, c1, rfl⟩ := h1.len
  by_cases hs0 : s < 0
  · go_enter Try.func13, Try.ntmps13
    go_wp2
    go_ret
    exact ReachPost.no
  by_cases hs1 : (nT : Int) ≤ s
  · go_enter Try.func13, Try.ntmps13
    go_wp2
    go_ret
    exact ReachPost.no
  go_enter Try.func13, Try.ntmps13
  go_wp2
  go_loopg [9, 10] (par.length) (fun g n i wr => ∃ (k : Nat) (m : Int) (p : List Int), k ≤ par.length ∧ g = par.length - k ∧ i = .int .i64 k ∧ n = .int .i64 m ∧ wr = w ∧ p.length = k ∧ ∀ l, Way par nT s m l → Way par nT s e (p ++ l))
  case atStart => exact ⟨0, e, [], by omega, by omega, rfl, rfl, rfl, rfl, fun l h => h⟩
  case round =>
    obtain ⟨k, m, p, hk, rfl, rfl, rfl, rfl, hpl, hway⟩ := hrel
    have HPL := hide hpl
    have HW := hide hway
    clear hpl hway
    by_cases hms : m = s
    · have hb : (m != s) = false := by simp [hms]
      have HMS := hide hms
      clear hms
      go_wp2
      go_ret
      exact ⟨true, rfl, rfl, fun _ => ⟨by omega, by omega, p, by rw [HPL.out]; exact hk, by have := HW.out [] HMS.out; rwa [List.append_nil] at this⟩⟩
    · have hb : (m != s) = true := by simp [hms]
      have HMS := hide hms
      clear hms
      by_cases hkl : par.length ≤ k
      · go_wp2
        go_ret
        exact ReachPost.no
      by_cases hm0 : m < 0
      · go_wp2
        go_ret
        exact ReachPost.no
      by_cases hm1 : (nT : Int) ≤ m
      · go_wp2
        go_ret
        exact ReachPost.no
      by_cases hm2 : (par.length : Int) ≤ m
      · go_wp2
        go_ret
        exact ReachPost.no
      obtain ⟨mn, rfl⟩ := Int.eq_ofNat_of_zero_le (show 0 ≤ m by omega)
      obtain ⟨b, off, z, rfl, hb, HZ, hz1, hz2, hck⟩ := h1.get (k := mn) (by omega)
      go_wp2
      go_roundg (par.length - (k + 1))
      case measure => omega
      case rel =>
        refine ⟨k + 1, wrap64 (z - 1), p ++ [(mn : Int)], by omega, rfl, by go_num, rfl, rfl, by simp [HPL.out], fun l hl => ?_⟩
        have hl' := wrap_way hnT (by omega) hz1 hz2 hl (by omega)
        rw [List.append_assoc]
        refine HW.out _ (Way.mk HMS.out (by omega) (by omega) (by omega) ?_)
        rw [Int.toNat_natCast, ← HZ.out]
        exact hl'

/-- What the test for a way point says. -/
def MidPost (par : List Int) (nT : Nat) (s m e : Int) (l : List Int) (w : World) (en : Ending) (w' : World) : Prop :=
  ∃ r : Bool, en = .returned (.bool r) ∧ w' = w ∧ (r = true → ∃ l1 l2, l = l1 ++ l2 ∧ Way par nT m e l1 ∧ Way par nT s m l2)

theorem MidPost.no {par : List Int} {nT : Nat} {s m e : Int} {l : List Int} {w : World} : MidPost par nT s m e l w (.returned (.bool false)) w := ⟨false, rfl, rfl, fun h => by cases h⟩

set_option maxHeartbeats 400000 in
theorem onTheWay_any (w : World) (v1 : Value) (nT : Nat) (s m e : Int) (par l : List Int) (h1 : IV w v1 par) (hnT : nT ≤ 65536) (hp : par.length ≤ 65536) (hs : 0 ≤ s ∧ s < nT) (hway : Way par nT s e l) (hl : l.length ≤ par.length) :
    Calls Try.prog 16 #[v1, .int .i64 s, .int .i64 m, .int .i64 e] w (MidPost par nT s m e l w) := by
  obtain ⟨a1, c1, rfl⟩ := h1.len
  have HS := hide hs
  have HWAY := hide hway
  clear hs hway
  go_enter Try.func16, Try.ntmps16
  go_wp2
  go_loopg [9, 10] (par.length + 1) (fun g n i wr => ∃ (k : Nat) (x : Int) (p r : List Int), k ≤ par.length + 1 ∧ g = par.length + 1 - k ∧ i = .int .i64 k ∧ n = .int .i64 x ∧ wr = w ∧ l = p ++ r ∧ Way par nT s x r ∧ ∀ q, Way par nT m x q → Way par nT m e (p ++ q))
  case atStart => exact ⟨0, e, [], l, by omega, by omega, rfl, rfl, rfl, rfl, HWAY.out, fun q h => h⟩
  case round =>
    obtain ⟨k, x, p, r, hk, rfl, rfl, rfl, rfl, hlr, hxr, hq⟩ := hrel
    have HLR := hide hlr
    have HQ := hide hq
    have HXR := hide hxr
    clear hlr hq hxr
    by_cases hkl : (k : Int) ≤ par.length
    · by_cases hxm : x = m
      · have hb : (x == m) = true := by simp [hxm]
        have HXM := hide hxm
        clear hxm
        go_wp2
        go_ret
        exact ⟨true, rfl, rfl, fun _ => ⟨p, r, HLR.out, by have := HQ.out [] HXM.out; rwa [List.append_nil] at this, by rw [← HXM.out]; exact HXR.out⟩⟩
      · have hb : (x == m) = false := by simp [hxm]
        have HXM := hide hxm
        clear hxm
        by_cases hxs : x = s
        · have hb2 : (x == s) = true := by simp [hxs]
          clear hxs
          go_wp2
          go_ret
          exact MidPost.no
        · have hb2 : (x == s) = false := by simp [hxs]
          obtain ⟨r', hr', hx0, hx1, hx2, hnext⟩ := HXR.out.step hxs
          have HR' := hide hr'
          have hng := hnext.range HS.out
          have HNEXT := hide hnext
          clear hxs hr' hnext HXR
          obtain ⟨xn, rfl⟩ := Int.eq_ofNat_of_zero_le hx0
          obtain ⟨b, off, z, rfl, hb, HZ, hz1, hz2, hck⟩ := h1.get (k := xn) (by omega)
          rw [Int.toNat_natCast, ← HZ.out] at hng
          rw [Int.toNat_natCast, ← HZ.out] at HNEXT
          obtain ⟨hng1, hng2⟩ := hng
          go_wp2
          go_roundg (par.length + 1 - (k + 1))
          case measure => omega
          case rel =>
            refine ⟨k + 1, z - 1, p ++ [(xn : Int)], r', by omega, rfl, by go_num, rfl, rfl, ?_, HNEXT.out, fun q hq => ?_⟩
            · rw [HLR.out, HR'.out]
              simp
            · rw [List.append_assoc]
              refine HQ.out _ (Way.mk HXM.out (by omega) hx1 hx2 ?_)
              rw [Int.toNat_natCast, ← HZ.out]
              exact hq
    · go_wp2
      go_ret
      exact MidPost.no

theorem getD_fits {tx : List Int} (h : ∀ z ∈ tx, Fits z) (n : Nat) : Fits (tx.getD n 0) := by
  rw [List.getD]
  cases hn : tx[n]? with
  | none => exact ⟨by simp, by simp⟩
  | some z => exact h z (List.mem_of_getElem? hn)

theorem map_fits {tx : List Int} (h : ∀ z ∈ tx, Fits z) (d : List Int) : ∀ z ∈ d.map (fun n => tx.getD n.toNat 0), Fits z := by
  intro z hz
  obtain ⟨n, _, rfl⟩ := List.mem_map.1 hz
  exact getD_fits h _

theorem drop_reverse {R : List Int} {q : Nat} (hq : q < R.length) : (R.drop (q + 1)).reverse ++ [R.getD q 0] = (R.drop q).reverse := by
  rw [List.drop_eq_getElem_cons hq, List.reverse_cons, List.getD, List.getElem?_eq_getElem hq]
  rfl

theorem path_end (tx : List Int) (s : Int) (l : List Int) : ((l.map fun n => tx.getD n.toNat 0) ++ [tx.getD s.toNat 0]).reverse = pathOf tx s l := by
  simp [pathOf]

set_option maxHeartbeats 1000000 in
theorem path_any (w : World) (gb : Nat) (tv v1 : Value) (s e : Int) (tx par l : List Int) (hg : w.cell? ⟨gb, 0, none⟩ = some tv) (h0 : IV w tv tx) (h1 : IV w v1 par) (hp : par.length ≤ 65536) (hT : tx.length ≤ 65536) (hs : 0 ≤ s ∧ s < tx.length) (hway : Way par tx.length s e l) (hl : l.length ≤ par.length) :
    Calls Try.prog 26 #[.pointer (some ⟨gb, 0, none⟩), v1, .int .i64 s, .int .i64 e] w fun en w' => ∃ u, en = .returned u ∧ IV w' u (pathOf tx s l) ∧ Below w.heap.size w w' := by
  obtain ⟨i0, hi, hz0, hz1, hz2⟩ := info_parts info3
  obtain ⟨a0, c0, rfl⟩ := h0.len
  obtain ⟨a1, c1, rfl⟩ := h1.len
  have hgb := cell_lt hg
  have HWAY := hide hway
  obtain ⟨hs0, hs1⟩ := hs
  clear hway
  go_enter Try.func26, Try.ntmps26
  go_wp2
  go_loopg [9, 10] (l.length) (fun g v n wr => ∃ (x : Int) (d r M : List Int), g = r.length ∧ n = .int .i64 x ∧ l = d ++ r ∧ Way par tx.length s x r ∧ M = d.map (fun n => tx.getD n.toNat 0) ∧ IStack wr w.heap.size v M ∧ Below w.heap.size w wr)
  case atStart => exact ⟨e, [], l, [], rfl, rfl, rfl, HWAY.out, rfl, IStack.nil _ _, Below.refl _ _⟩
  case round =>
    obtain ⟨x, d, r, M, rfl, rfl, hlr, hxr, hM, hst, hnx⟩ := hrel
    have hML : M.length ≤ 65536 := by
      rw [hM, List.length_map]
      have := congrArg List.length hlr
      rw [List.length_append] at this
      omega
    have HLR := hide hlr
    have HXR := hide hxr
    have HM := hide hM
    clear hlr hxr hM
    have hgr : wr.cell? ⟨gb, 0, none⟩ = some (.slice a0 tx.length c0) := (hnx.cell (p := ⟨gb, 0, none⟩) hgb).trans hg
    have h0r := h0.below hnx
    have hwsz := hnx.size
    obtain ⟨va, vcap, rfl⟩ := hst.form
    by_cases hxs : x = s
    · have hb : (x != s) = false := by simp [hxs]
      have hrn : r = [] := by rw [hxs] at HXR; exact HXR.out.goal_nil
      have HRN := hide hrn
      clear hxs HXR hrn
      obtain ⟨sn, rfl⟩ := Int.eq_ofNat_of_zero_le hs0
      obtain ⟨b0, off0, t, rfl, _, HT, ht1, ht2, hct⟩ := h0r.get (k := sn) (by omega)
      go_wp2_with (at_builtin; refine wpList_append_own _ rfl _ _ 22 rfl w.heap.size 3 i0 (.int .i64 0) 1 8 Try.underlying22 hi hz0 hz1 hz2 rfl (by decide) _ _ _ rfl (hst.alloc _) ⟨wr.heap.size, 0, none⟩ 1 1 [.int .i64 t] rfl rfl (cell_one_new _ _ _) (by simp [Value.oneCell']) (by unfold maxLen; omega) (by omega) (by simp; omega) ?_)
      intro v4 w4 hown4 hg4 _
      have hst4 := IStack.appended hown4
      have hnx4 : Below w.heap.size w w4 := (hnx.alloc hnx.size _).grown hg4 (by simp; omega) (fun k hk => hst.rowGe k hk)
      have hfit4 : ∀ z ∈ M ++ [t], Fits z := by
        intro z hz
        simp only [List.mem_append, List.mem_singleton] at hz
        rcases hz with hz | rfl
        · rw [HM.out] at hz
          exact map_fits h0.fits d z hz
        · exact ⟨ht1, ht2⟩
      have hiv4 := hst4.iv hfit4
      have HP := hide (show (M ++ [t]).reverse = pathOf tx sn l by
        rw [HM.out, HT.out, ← path_end, HLR.out, HRN.out, List.append_nil, Int.toNat_natCast])
      have hRl : (M ++ [t]).length ≤ 65537 := by simp; omega
      have hRp : 0 < (M ++ [t]).length := by simp
      have HF4 := hide hfit4
      generalize M ++ [t] = R at hst4 hiv4 hRl hRp HP HF4
      obtain ⟨ra, rcap, rfl⟩ := hst4.form
      clear hown4 hg4 hst hnx hst4 hfit4 HM hML h0r hgr hct hwsz
      go_wp2_with (at_make; refine wpList_make_own _ rfl _ _ 22 rfl w4.heap.size 3 i0 (.int .i64 0) 1 Try.underlying22 hi hz0 hz1 _ _ _ R.length rfl rfl rfl (by rw [hz2]; omega) (by unfold maxLen; omega) (Nat.le_refl _) ?_)
      intro w5 hown5 hg5
      have hst5 : IStack w5 w4.heap.size (.slice (some ⟨w4.heap.size, 0, none⟩) 0 R.length) [] := hown5
      have hnx5 : Below w4.heap.size w4 w5 := (Below.refl _ _).grown hg5 (Nat.le_refl _) (fun j hj => by cases hj)
      clear hown5 hg5
      go_wp2
      go_loopg [11, 12] (R.length) (fun g v i wr' => ∃ (rem : Nat) (P : List Int), rem ≤ R.length ∧ g = rem ∧ i = .int .i64 ((rem : Int) - 1) ∧ P = (R.drop rem).reverse ∧ IStack wr' w4.heap.size v P ∧ Below w4.heap.size w4 wr')
      case atStart => exact ⟨R.length, [], Nat.le_refl _, rfl, rfl, by simp, hst5, hnx5⟩
      case round =>
        clear hst5 hnx5
        rename World => w6
        obtain ⟨rem, P, hrem, rfl, rfl, hP, hst6, hnx6⟩ := hrel
        have hPl : P.length ≤ 65537 := by rw [hP]; simp; omega
        have HPP := hide hP
        clear hP
        have hiv6 := hiv4.below hnx6
        have hwsz6 := hnx6.size
        obtain ⟨pa, pcap, rfl⟩ := hst6.form
        cases gk with
        | zero =>
          go_wp2
          go_ret
          have e : P = pathOf tx sn l := by rw [HPP.out, List.drop_zero, HP.out]
          have hfp : ∀ z ∈ P, Fits z := fun z hz => by
            rw [HPP.out, List.drop_zero, List.mem_reverse] at hz
            exact HF4.out z hz
          exact ⟨_, rfl, by rw [← e]; exact hst6.iv hfp, hnx4.trans (hnx6.mono hnx4.size)⟩
        | succ q =>
          obtain ⟨b6, off6, z6, rfl, _, HZ6, _, _, hcz⟩ := hiv6.get (k := q) (by omega)
          have eq1 : ((q + 1 : Nat) : Int) - 1 = (q : Int) := by omega
          rw [eq1]
          clear eq1
          go_wp2_with (at_builtin; refine wpList_append_own _ rfl _ _ 22 rfl w4.heap.size 3 i0 (.int .i64 0) 1 8 Try.underlying22 hi hz0 hz1 hz2 rfl (by decide) _ _ _ rfl (hst6.alloc _) ⟨w6.heap.size, 0, none⟩ 1 1 [.int .i64 z6] rfl rfl (cell_one_new _ _ _) (by simp [Value.oneCell']) (by unfold maxLen; omega) (by omega) (by simp; omega) ?_)
          intro v7 w7 hown7 hg7 _
          have hst7 := IStack.appended hown7
          have hnx7 : Below w4.heap.size w4 w7 := (hnx6.alloc hnx6.size _).grown hg7 (by simp; omega) (fun k hk => hst6.rowGe k hk)
          clear hown7 hg7 hst6 hnx6 hcz hiv6
          go_wp2
          go_roundg (q)
          case measure => omega
          case rel => exact ⟨q, P ++ [z6], by omega, rfl, by go_num, by rw [HPP.out, HZ6.out]; exact drop_reverse (by omega), hst7, hnx7⟩
    · have hb : (x != s) = true := by simp [hxs]
      obtain ⟨r', hr', hx0, hx1, hx2, hnext⟩ := HXR.out.step hxs
      have HR' := hide hr'
      have hng := hnext.range ⟨hs0, hs1⟩
      have HNEXT := hide hnext
      clear hxs hr' hnext HXR
      obtain ⟨xn, rfl⟩ := Int.eq_ofNat_of_zero_le hx0
      obtain ⟨b0, off0, t, rfl, _, HT, _, _, hct⟩ := h0r.get (k := xn) (by omega)
      obtain ⟨b, off, z, rfl, hb1, HZ, hz1', hz2', hck0⟩ := h1.get (k := xn) (by omega)
      rw [Int.toNat_natCast, ← HZ.out] at hng
      rw [Int.toNat_natCast, ← HZ.out] at HNEXT
      obtain ⟨hng1, hng2⟩ := hng
      go_wp2_with (at_builtin; refine wpList_append_own _ rfl _ _ 22 rfl w.heap.size 3 i0 (.int .i64 0) 1 8 Try.underlying22 hi hz0 hz1 hz2 rfl (by decide) _ _ _ rfl (hst.alloc _) ⟨wr.heap.size, 0, none⟩ 1 1 [.int .i64 t] rfl rfl (cell_one_new _ _ _) (by simp [Value.oneCell']) (by unfold maxLen; omega) (by omega) (by simp; omega) ?_)
      intro v4 w4 hown4 hg4 _
      have hst4 := IStack.appended hown4
      have hnx4 : Below w.heap.size w w4 := (hnx.alloc hnx.size _).grown hg4 (by simp; omega) (fun k hk => hst.rowGe k hk)
      have hck4 : w4.cell? ⟨b, off + xn, none⟩ = some (.int .i64 z) := (hnx4.cell (p := ⟨b, off + xn, none⟩) hb1).trans hck0
      clear hown4 hg4 hst hnx hct hgr
      go_wp2
      go_roundg (r'.length)
      case measure => rw [HR'.out]; simp
      case rel => exact ⟨z - 1, d ++ [(xn : Int)], r', M ++ [t], rfl, rfl, by rw [HLR.out, HR'.out]; simp, HNEXT.out, by rw [HM.out, HT.out]; simp, hst4, hnx4⟩

end Go.Proofs.Qxb6601860a
