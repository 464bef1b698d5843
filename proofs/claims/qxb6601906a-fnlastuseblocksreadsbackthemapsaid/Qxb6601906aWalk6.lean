/-
  Walks: the blocks of a map (lastUseBlocks).
-/
import Derived.Test.Qxb6601906aLib
namespace Go.Proofs.Qxb6601906a
open Go.RowKit
set_option linter.unusedVariables false

theorem IStack.kept {w w' : World} {base m : Nat} {v : Value} {zs : List Int} (h : IStack w base v zs) (hg : w.grownBy w' (some m)) (hm : m < base) : IStack w' base v zs :=
  World.ownsRow.kept h hg (by
    cases hv : v.ownBlock with
    | none => exact Or.inl rfl
    | some g =>
      right
      have := (h.lt g hv).1
      simp only [ne_eq, Option.some.injEq]
      omega)

/-- The key x, struck from what is still to come. -/
def strike (L : List Int) (x : Int) : List Int := L.filter (fun y => decide (y ≠ x))

theorem wpList_nextDone (w : World) {ops : Array Oper} {rest : List Oper} {o : Oper} {a : Act} {Q : Exit → Act → World → Prop}
    (hg : o.guard = none) (it : Operand) (hop : o.op = Op.next it false) (mv : Value) (r : Nat) (ks : List Int) (f : Int → Int) (hit : a.eval it = .pointer (some ⟨r, 0, none⟩)) (h : Iter w mv r ks f [])
    (hK : wpList Try.prog ops Q rest (a.put o.dst (.tuple #[.bool false])) w) : wpList Try.prog ops Q (o :: rest) a w := by
  refine wpList_plain hg fun K' hK' => ?_
  unfold Oper.wp
  rcases h.next o.type with ⟨_, hrun⟩ | ⟨x, w', hx, _⟩
  · simp [execOp, hop, hit, hrun, Result.andThen]
    exact hK' _ _ hK
  · cases hx

theorem wpList_nextMore (w : World) {ops : Array Oper} {rest : List Oper} {o : Oper} {a : Act} {Q : Exit → Act → World → Prop}
    (hg : o.guard = none) (it : Operand) (hop : o.op = Op.next it false) (mv : Value) (r : Nat) (ks : List Int) (f : Int → Int) (L : List Int) (hit : a.eval it = .pointer (some ⟨r, 0, none⟩)) (h : Iter w mv r ks f L) (hL : L ≠ [])
    (hK : ∀ x w', x ∈ L → x ∈ ks → Iter w' mv r ks f (strike L x) → w.grownBy w' (some r) → w'.heap.size = w.heap.size →
      (Instr.entry (.pointer (some ⟨r, 0, none⟩))).run Try.prog w' = .ok (.tuple #[.int .i64 x, .int .i64 (f x)]) w' → wpList Try.prog ops Q rest (a.put o.dst (.tuple #[.bool true, .int .i64 x, .int .i64 (f x)])) w') :
    wpList Try.prog ops Q (o :: rest) a w := by
  refine wpList_plain hg fun K' hK' => ?_
  unfold Oper.wp
  rcases h.next o.type with ⟨h0, _⟩ | ⟨x, w', h1, h2, hrun, h3, h4, h5, h6⟩
  · exact absurd h0 hL
  · simp [execOp, hop, hit, hrun, Result.andThen]
    exact hK' _ _ (hK x w' h1 h2 h3 h4 h5 h6)

theorem Iter.kept {w w' : World} {mv : Value} {r : Nat} {ks : List Int} {f : Int → Int} {L : List Int} (h : Iter w mv r ks f L) (hr : w'.heap[r]? = w.heap[r]?) (hm : ∀ b, mv = .map (some b) → w'.heap[b]? = w.heap[b]?) : Iter w' mv r ks f L := by
  rcases h with ⟨h1, h2, h3, h4⟩ | ⟨b, es, clock, since, seen, c0, h1, h2, h3, h4, h5⟩
  · exact Or.inl ⟨h1, h2, h3, hr.trans h4⟩
  · exact Or.inr ⟨b, es, clock, since, seen, c0, h1, (hm b h1).trans h2, h3, hr.trans h4, h5⟩

theorem set_fits {xs : List Int} (h : ∀ z ∈ xs, Fits z) (m : Nat) {v : Int} (hv : Fits v) : ∀ z ∈ xs.set m v, Fits z := by
  intro z hz
  rcases List.mem_or_eq_of_mem_set hz with h1 | rfl
  · exact h z h1
  · exact hv

theorem quo_eq {x : Int} (h0 : 0 ≤ x) (hf : Fits x) : wrap64 (x.tdiv 128) = x / 128 := by
  rw [Int.tdiv_eq_ediv_of_nonneg h0]
  unfold wrap64
  have := hf.2
  omega

theorem rem_eq {x : Int} (h0 : 0 ≤ x) : wrap64 (x.tmod 128) = x % 128 := by
  rw [Int.tmod_eq_emod_of_nonneg h0]
  unfold wrap64
  omega

theorem strike_lt {L : List Int} {x : Int} (h : x ∈ L) : (strike L x).length < L.length := by
  unfold strike
  rcases Nat.lt_or_ge (L.filter (fun y => decide (y ≠ x))).length L.length with h1 | h1
  · exact h1
  · have e : L.filter (fun y => decide (y ≠ x)) = L := List.Sublist.eq_of_length List.filter_sublist (Nat.le_antisymm (List.length_filter_le _ _) h1)
    have := List.filter_eq_self.1 e x h
    simp at this

/-- What has been done, what is still to come. -/
structure Way (ks dn L : List Int) : Prop where
  len : dn.length + L.length ≤ ks.length
  who : ∀ s, s ∈ ks ↔ s ∈ dn ∨ s ∈ L

theorem Way.start (ks : List Int) : Way ks [] ks := ⟨by simp, by simp⟩

theorem Way.step {ks dn L : List Int} (h : Way ks dn L) {x : Int} (hx : x ∈ L) : Way ks (dn ++ [x]) (strike L x) := by
  refine ⟨?_, fun s => ?_⟩
  · have := h.len
    have := strike_lt hx
    simp only [List.length_append, List.length_singleton]
    omega
  · rw [h.who s]
    simp only [strike, List.mem_append, List.mem_singleton, List.mem_filter, decide_eq_true_eq]
    constructor
    · rintro (h1 | h1)
      · exact Or.inl (Or.inl h1)
      · by_cases e : s = x
        · exact Or.inl (Or.inr e)
        · exact Or.inr ⟨h1, e⟩
    · rintro ((h1 | rfl) | ⟨h1, _⟩)
      · exact Or.inl h1
      · exact Or.inr hx
      · exact Or.inr h1

/-- The blocks that were met, sorted, runs struck. -/
def blk (M : List Int) : List Int := Lib.compact (srt M)

theorem blk_len (M : List Int) : (blk M).length ≤ M.length := by
  have := compact_length (srt M)
  rw [srt_length] at this
  exact this

theorem blk_rises (M : List Int) : (blk M).Pairwise (· < ·) := (compact_rises (sorted_rises M)).1

theorem blk_mem (M : List Int) (x : Int) : x ∈ blk M ↔ x ∈ M := ((compact_rises (sorted_rises M)).2 x).trans (sorted_mem M x)

theorem Way.done {ks dn : List Int} (h : Way ks dn []) : ∀ s, s ∈ dn ↔ s ∈ ks := fun s => by rw [h.who s]; simp

set_option maxHeartbeats 400000 in
theorem blocks_any (w : World) (mv : Value) (ks : List Int) (f : Int → Int) (hm : MapV w mv ks f) (hk0 : ∀ s ∈ ks, 0 ≤ s) (hkl : ks.length ≤ 4096) :
    Calls Try.prog 6 #[mv] w fun e w' => ∃ bv lv Bs Ls, e = .returned (.tuple #[bv, lv]) ∧ IV w' bv Bs ∧ IV w' lv Ls ∧ Laid ks f Bs Ls ∧ Below w.heap.size w w' := by
  obtain ⟨i0, hi, hz0, hz1, hz2⟩ := info_parts info2
  obtain ⟨w1, hrun, hit1, hnx1, hsz1⟩ := hm.range
  have hmlt : ∀ b, mv = .map (some b) → b < w.heap.size := by
    intro b e
    rcases hm with ⟨e', _⟩ | ⟨b', e', hb⟩
    · rw [e'] at e; cases e
    · rw [e'] at e; cases e; exact hb.lt
  have HMLT := hide hmlt
  have HK0 := hide hk0
  clear hmlt hk0
  go_enter Try.func6, Try.ntmps6
  go_wp2
  go_loopg [2] (ks.length) (fun g v wr => ∃ (dn L M : List Int), g = L.length ∧ Way ks dn L ∧ M = dn.map (· / 128) ∧ Iter wr mv w.heap.size ks f L ∧ IStack wr (w.heap.size + 1) v M ∧ Below w.heap.size w wr)
  case atStart => exact ⟨[], ks, [], rfl, Way.start ks, rfl, hit1, IStack.nil _ _, hnx1⟩
  case round =>
    clear hit1 hnx1 hsz1 hrun
    obtain ⟨dn, L, M, rfl, hway, hM, hit, hst, hnx⟩ := hrel
    have hML : M.length ≤ 4096 := by rw [hM, List.length_map]; have := hway.len; omega
    have HM := hide hM
    have HW := hide hway
    clear hM hway
    have hwsz := hit.lt
    by_cases hL : L = []
    · subst hL
      go_wp2_with (at_next; refine wpList_nextDone _ rfl _ rfl mv w.heap.size ks f rfl hit ?_)
      have hst' := hst
      refine (sort_any wr (w.heap.size + 1) _ M hst' hwsz (by omega)).mono ?_
      rintro e w2 ⟨rfl, hst2, hb2⟩
      go_wp2_with fail
      have hsz2 := hb2.size
      refine (compact_any w2 (w.heap.size + 1) _ (srt M) hst2 (by omega) (by rw [srt_length]; omega)).mono ?_
      rintro e w3 ⟨u, rfl, hst3, hb3⟩
      have hsz3 := hb3.size
      have hwho : ∀ x, x ∈ blk M ↔ ∃ s ∈ ks, x = s / 128 := by
        intro x
        rw [blk_mem, HM.out, List.mem_map]
        constructor
        · rintro ⟨s, h1, h2⟩
          exact ⟨s, (HW.out.done s).1 h1, h2.symm⟩
        · rintro ⟨s, h1, h2⟩
          exact ⟨s, (HW.out.done s).2 h1, h2.symm⟩
      have HB := hide (And.intro (blk_rises M) hwho)
      have hBL : (blk M).length ≤ 4096 := Nat.le_trans (blk_len M) hML
      have hfit : ∀ z ∈ blk M, Fits z := by
        intro z hz
        obtain ⟨s, hs, rfl⟩ := (hwho z).1 hz
        have h1 := (hm.fits s hs).1
        have h2 := HK0.out s hs
        unfold Fits at h1 ⊢
        omega
      have hst3' : IStack w3 (w.heap.size + 1) u (blk M) := hst3
      have hbv := hst3'.iv hfit
      have hnx3 : Below w.heap.size w w3 := (hnx.trans (hb2.mono (Nat.le_succ _))).trans (hb3.mono (Nat.le_succ _))
      clear hst3 hst3' hst2 hst' hst hb2 hb3 hit hnx hwho hML HM HW hfit
      generalize blk M = Bs at HB hBL hbv
      obtain ⟨ba, bcap, rfl⟩ := hbv.len
      go_wp2_with (at_make; refine wpList_make_full _ rfl _ _ 22 rfl w3.heap.size 2 i0 (.int .i64 0) 1 Try.underlying22 hi hz0 hz1 _ _ _ _ (Bs.length * 128) rfl rfl rfl rfl (by rw [hz2]; omega) (by unfold maxLen; omega) (Nat.le_refl _) ?_)
      intro w4 hown4 hg4
      have hrow4 := made_row hown4
      have hlt4 := hrow4.lt
      have hb4 : Below w3.heap.size w3 w4 := (Below.refl _ _).grown hg4 (Nat.le_refl _) (fun j hj => by cases hj)
      have hnx4 : Below w.heap.size w w4 := hnx3.grown hg4 hnx3.size (fun j hj => by cases hj)
      obtain ⟨w5, hrun5, hit5, hb5, hsz5⟩ := (hm.below hnx4).range
      have hrow5 : RowAt w5 w3.heap.size (List.replicate (Bs.length * 128) 0) := hrow4.kept (hb5.block _ hlt4)
      have hb35 : Below w3.heap.size w3 w5 := hb4.trans (hb5.mono (Nat.le_of_lt hlt4))
      have HLT := hide (hlt4)
      have HNX3 := hide hnx3
      have hszw := hnx3.size
      have HSZW := hide hszw
      clear hown4 hg4 hrow4 hb4 hnx4 hb5 hsz5 hnx3 hlt4 hszw
      go_wp2
      go_loopg [5] (ks.length) (fun g v wr' => ∃ (dn L Ls : List Int), g = L.length ∧ Way ks dn L ∧ Half dn f Bs Ls ∧ (∀ z ∈ Ls, Fits z) ∧ Iter wr' mv w4.heap.size ks f L ∧ RowAt wr' w3.heap.size Ls ∧ Below w3.heap.size w3 wr')
      case atStart => exact ⟨[], ks, _, rfl, Way.start ks, Half.start f Bs, by simp [Fits], hit5, hrow5, hb35⟩
      case round =>
        clear hit5 hrow5 hb35 hrun5
        rename World => w6
        obtain ⟨dn, L, Ls, rfl, hway, hhalf, hfits, hit, hrow, hnx⟩ := hrel
        have HW := hide hway
        have HH := hide hhalf
        have HF := hide hfits
        clear hway hhalf hfits
        by_cases hL : L = []
        · subst hL
          go_wp2_with (at_next; refine wpList_nextDone _ rfl _ rfl mv w4.heap.size ks f rfl hit ?_)
          go_ret2
          have hsz : Bs.length * 128 = Ls.length := HH.out.len.symm
          exact ⟨_, _, Bs, Ls, rfl, hbv.below hnx, hrow.iv hsz (by rw [← hsz]; unfold maxLen; omega) HF.out, HH.out.laid HB.out.1 HB.out.2 HW.out.done, HNX3.out.trans (hnx.mono HSZW.out)⟩
        · have HL := hide hL
          clear hL
          go_wp2_with (at_next; refine wpList_nextMore _ rfl _ rfl mv w4.heap.size ks f L rfl hit HL.out ?_)
          intro x w7 hxL hxk hit7 hg7 hsz7 hent
          have hrow7 := hrow.kept (hg7.block _ hrow.lt (by have := HLT.out; simp only [ne_eq, Option.some.injEq]; omega))
          have hnx7 : Below w3.heap.size w3 w7 := hnx.grown hg7 hnx.size (fun k hk => by cases hk; exact Nat.le_of_lt HLT.out)
          have hx0 := HK0.out x hxk
          have hxf := ((hm.fits x hxk).1)
          have hfx := ((hm.fits x hxk).2)
          have hq := quo_eq hx0 hxf
          have hr := rem_eq hx0
          have hbv7 := hbv.below hnx7
          have HXL := hide hxL
          have HXK := hide hxk
          clear hit hrow hnx hg7 hsz7 hxL
          go_wp2_with fail
          refine (search_any w7 _ Bs (x / 128) hbv7 (by omega) HB.out.1 ((HB.out.2 _).2 ⟨x, HXK.out, rfl⟩)).mono ?_
          rintro e w8 ⟨i, o, rfl, hib, hiB, q, hq8⟩
          have hit8 : Iter w8 mv w4.heap.size ks f (strike L x) := by rw [hq8]; exact hit7
          have hrow8 : RowAt w8 w3.heap.size Ls := by rw [hq8]; exact hrow7
          have hnx8 : Below w3.heap.size w3 w8 := by rw [hq8]; exact below_drewN hnx7 q
          obtain ⟨m, hidx⟩ := Int.eq_ofNat_of_zero_le (show 0 ≤ (i : Int) * 128 + x % 128 by omega)
          have hml : m < Bs.length * 128 := by omega
          have hml' : m < Ls.length := by rw [HH.out.len]; exact hml
          have hck := hrow8.cell hml'
          have hfz := hrow8.frozen m
          have HIB := hide (And.intro hib hiB)
          have HIDX := hide hidx
          clear hit7 hrow7 hnx7 hbv7 hq8 hiB hent hml'
          go_wp2
          go_roundg ((strike L x).length)
          case measure => exact strike_lt HXL.out
          case rel =>
            refine ⟨dn ++ [x], strike L x, _, rfl, HW.out.step HXL.out, HH.out.step HB.out.1 HIB.out.1 HIB.out.2 hx0 HIDX.out.symm, set_fits HF.out m hfx, hit8.kept ?_ (fun b e => ?_), hrow8.set m (f x), hnx8.setCell (Nat.le_refl _) _⟩
            · exact Below.heap_setCell _ _ _ _ (by have := HLT.out; show w4.heap.size ≠ w3.heap.size; omega)
            · exact Below.heap_setCell _ _ _ _ (by have := HMLT.out b e; have := HSZW.out; show b ≠ w3.heap.size; omega)
    · have HL := hide hL
      clear hL
      go_wp2_with (at_next; refine wpList_nextMore _ rfl _ rfl mv w.heap.size ks f L rfl hit HL.out ?_)
      intro x w2 hxL hxk hit2 hg2 hsz2 hent
      have hst2 := hst.kept hg2 (Nat.lt_succ_self _)
      have hnx2 : Below w.heap.size w w2 := hnx.grown hg2 hnx.size (fun k hk => by cases hk; exact Nat.le_refl _)
      have hx0 := HK0.out x hxk
      have hxf := ((hm.fits x hxk).1)
      have hq := quo_eq hx0 hxf
      have HSZ2 := hide hsz2
      clear hit hst hnx hg2 hsz2 hwsz
      have hwsz := hit2.lt
      have HXL := hide hxL
      clear hxL
      obtain ⟨va, vcap, rfl⟩ := hst2.form
      go_wp2_with (at_builtin; refine wpList_append_own _ rfl _ _ 22 rfl (w.heap.size + 1) 2 i0 (.int .i64 0) 1 8 Try.underlying22 hi hz0 hz1 hz2 rfl (by decide) _ _ _ rfl (hst2.alloc _) ⟨w2.heap.size, 0, none⟩ 1 1 [.int .i64 (x / 128)] rfl rfl (cell_one_new _ _ _) (by simp [Value.oneCell']) (by unfold maxLen; omega) (by omega) (by simp; omega) ?_)
      intro v4 w4 hown4 hg4 _
      have hst4 := IStack.appended hown4
      have hge : ∀ k, Value.ownBlock (.slice va M.length vcap) = some k → w.heap.size + 1 ≤ k := hst2.rowGe
      have hnx4 : Below w.heap.size w w4 := (hnx2.alloc hnx2.size _).grown hg4 (by simp; omega) (fun k hk => by have := hge k hk; omega)
      have hb4 : Below (w.heap.size + 1) w2 w4 := ((Below.refl _ _).alloc (by omega) _).grown hg4 (by simp; omega) hge
      have hit4 := hit2.below hb4 (Nat.lt_succ_self _) (fun b e => Nat.lt_succ_of_lt (HMLT.out b e))
      clear hown4 hg4 hst2 hit2 hnx2 hb4 hge hent hq
      go_wp2
      go_roundg ((strike L x).length)
      case measure => exact strike_lt HXL.out
      case rel => exact ⟨dn ++ [x], _, _, rfl, HW.out.step HXL.out, by rw [HM.out, List.map_append]; rfl, hit4, hst4, hnx4⟩

end Go.Proofs.Qxb6601906a
