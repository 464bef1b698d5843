/-
  Walks: the copies (reachCopyIDs, reachCopyChildren).
-/
import Derived.Test.Qxb6601503aReads
namespace Go.Proofs.Qxb6601503a
open Go.RowKit
set_option linter.unusedVariables false
attribute [local go_sem] bs_toList bs_size

/-! ### a row of strings that the call made -/

/-- Block g is a row of the cells vs. -/
def RowAt (w : World) (g : Nat) (vs : List Value) : Prop := w.heap[g]? = some (.cells vs.toArray 9 (0, 0))

theorem RowAt.cell {w : World} {g : Nat} {vs : List Value} (h : RowAt w g vs) (j : Nat) : w.cell? ⟨g, j, none⟩ = vs[j]? := by
  unfold RowAt at h
  simp [World.cell?, h]

theorem RowAt.frozen {w : World} {g : Nat} {vs : List Value} (h : RowAt w g vs) (j : Nat) : w.frozen? ⟨g, j, none⟩ = false := by
  unfold RowAt at h
  simp [World.frozen?, h]

theorem RowAt.lt {w : World} {g : Nat} {vs : List Value} (h : RowAt w g vs) : g < w.heap.size := (Array.getElem?_eq_some_iff.1 h).1

theorem RowAt.set {w : World} {g : Nat} {vs : List Value} (h : RowAt w g vs) (k : Nat) (v : Value) : RowAt (w.setCell ⟨g, k, none⟩ v) g (vs.set k v) := by
  unfold RowAt at h ⊢
  rw [show (w.setCell ⟨g, k, none⟩ v).heap[g]? = _ from Array.getElem?_modify, if_pos rfl, h]
  simp

/-- The strings so far, then blanks. -/
def part (ss : List Str) (k : Nat) : List Value := (ss.take k).map (fun s => .string (bs s)) ++ List.replicate (ss.length - k) (.string (bs []))

theorem part_at {ss : List Str} {k : Nat} (hk : k < ss.length) : (part ss k)[k]? = some (.string (bs [])) := by
  unfold part
  have h1 : ((ss.take k).map (fun s => Value.string (bs s))).length = k := by simp; omega
  rw [List.getElem?_append_right (by omega), h1, List.getElem?_replicate]
  simp; omega

theorem part_set {ss : List Str} {k : Nat} (hk : k < ss.length) : (part ss k).set k (.string (bs ss[k])) = part ss (k + 1) := by
  unfold part
  have h1 : ((ss.take k).map (fun s => Value.string (bs s))).length = k := by simp; omega
  rw [List.set_append_right (h := by omega), h1, take_snoc hk, List.map_append, List.append_assoc]
  congr 1
  rw [show ss.length - k = (ss.length - (k + 1)) + 1 by omega, List.replicate_succ, Nat.sub_self, List.set_cons_zero]
  rfl

theorem part_full {ss : List Str} {k : Nat} (hk : ss.length ≤ k) : part ss k = ss.map (fun s => .string (bs s)) := by
  unfold part
  rw [List.take_of_length_le hk, Nat.sub_eq_zero_of_le hk]
  simp

theorem RowAt.sv {w : World} {g : Nat} {ss : List Str} (h : RowAt w g (ss.map (fun s => .string (bs s)))) (hl : ss.length ≤ maxLen) (hs : ∀ s ∈ ss, s.length ≤ maxLen) : SV w (.slice (some ⟨g, 0, none⟩) ss.length ss.length) ss := by
  refine ⟨some ⟨g, 0, none⟩, ss.length, rfl, (fun e => by cases e), Nat.le_refl _, hl, hs, fun j hj => ⟨g, 0, rfl, ?_⟩⟩
  rw [Nat.zero_add, h.cell j]
  simp [hj]

theorem info9 : (Try.prog.info? 9).map (fun i => (i.zero, i.size, i.bytes)) = some (some (.string (bs [])), 1, 16) := by kernel_rfl

theorem made_row {w w' : World} {base n : Nat} {ss : List Str} (hn : n = ss.length) (h : w'.ownsRow base 9 1 (.slice (some ⟨w.heap.size, 0, none⟩) n n) n (madeCells #[Value.string (bs [])] n).toList) : RowAt w' w.heap.size (part ss 0) := by
  subst hn
  obtain ⟨hl, ⟨h1, _⟩ | ⟨g, cap, cur, hv, _, hh, _, _, hsz, htk⟩⟩ := h
  · cases h1
  · simp only [Value.slice.injEq, Option.some.injEq, Addr.mk.injEq, and_true, true_and] at hv
    obtain ⟨rfl, rfl⟩ := hv
    have hcur : cur.toList = part ss 0 := by
      have e : cur.toList.take (ss.length * 1) = cur.toList := List.take_of_length_le (by simp [hsz])
      rw [← e, htk]
      unfold part
      apply List.ext_getElem
      · simp [madeCells]
      · intro i h1 h2
        simp [madeCells, Nat.mod_one]
    unfold RowAt
    rw [hh, ← hcur]

theorem SV.nilEmpty {w : World} {n cap : Nat} {ss : List Str} (h : SV w (.slice none n cap) ss) : ss = [] := by
  obtain ⟨a, cap', hv, h0, h1, _⟩ := h
  simp only [Value.slice.injEq] at hv
  have := h0 hv.1.symm
  exact List.eq_nil_of_length_eq_zero (by omega)

set_option maxHeartbeats 400000 in
theorem copyIDs_any (w : World) (iv : Value) (ids : List Str) (hids : SV w iv ids) (hsmall : ids.length ≤ 65536) :
    Calls Try.prog 9 #[iv] w fun e w' => ∃ v, e = .returned v ∧ SV w' v ids ∧ Below w.heap.size w w' := by
  obtain ⟨i0, hi, hz0, hz1, hz2⟩ := info_parts info9
  obtain ⟨ia, icap, rfl⟩ := hids.len
  have hnil := fun W => Lib.run_eql_slice_nil (P := Try.prog) W 23 9 ia ids.length icap 0 0 Try.underlying23
  cases ia with
  | none =>
    go_enter Try.func9, Try.ntmps9
    go_wp2
    go_ret
    exact ⟨_, rfl, by rw [hids.nilEmpty]; exact SV.nil w, Below.refl _ _⟩
  | some a =>
    go_enter Try.func9, Try.ntmps9
    go_wp2_with (at_make; refine wpList_make_full _ rfl _ _ 23 rfl w.heap.size 9 i0 (.string (bs [])) 1 Try.underlying23 hi hz0 hz1 _ _ _ _ ids.length rfl rfl rfl rfl (by rw [hz2]; omega) (by unfold maxLen; omega) (Nat.le_refl _) ?_)
    intro w1 hown hg
    have hrow := made_row (ss := ids) rfl hown
    have hnx1 : Below w.heap.size w w1 := (Below.refl _ _).grown hg (Nat.le_refl _) (fun j hj => by cases hj)
    clear hown hg hnil
    go_wp2
    go_loopg [4] (ids.length) (fun g i wr => ∃ k : Nat, k ≤ ids.length ∧ g = ids.length - k ∧ i = .int .i64 k ∧ RowAt wr w.heap.size (part ids k) ∧ Below w.heap.size w wr)
    case atStart => exact ⟨0, by omega, by omega, rfl, hrow, hnx1⟩
    case round =>
      clear hrow hnx1
      obtain ⟨k, hk, rfl, rfl, hrow, hnx⟩ := hrel
      by_cases hlt : k < ids.length
      · obtain ⟨b, off, s, ha, hb, HS, hsl, hck0⟩ := hids.get hlt
        cases ha
        have hck : wr.cell? ⟨b, off + k, none⟩ = some (.string (bs s)) := (hnx.cell (p := ⟨b, off + k, none⟩) hb).trans hck0
        have hd : wr.cell? ⟨w.heap.size, k, none⟩ = some (.string (bs [])) := (hrow.cell k).trans (part_at hlt)
        have hf := hrow.frozen k
        go_wp2
        go_roundg (ids.length - (k + 1))
        case measure => omega
        case rel => exact ⟨k + 1, by omega, rfl, by go_num, by rw [← part_set hlt, ← HS.out]; exact hrow.set k _, hnx.setCell (Nat.le_refl _) _⟩
      · go_wp2
        go_ret
        rw [part_full (by omega)] at hrow
        exact ⟨_, rfl, hrow.sv (by unfold maxLen; omega) hids.size, hnx⟩

/-- What holds of the copy so far: at each of the first k keys a slice that reads as C of it. -/
def Half (w : World) (M : Nat) (ids : List Str) (C : Str → List Str) (k : Nat) : Prop :=
  ∃ f, MapAt w M f k ∧ (∀ s, s ∈ ids.take k ↔ (f s).isSome = true) ∧ ∀ s v, f s = some v → SV w v (C s)

theorem Half.below {w w' : World} {M B : Nat} {ids : List Str} {C : Str → List Str} {k : Nat} (h : Half w M ids C k) (hb : Below w.heap.size w w') : Half w' M ids C k := by
  obtain ⟨f, h1, h2, h3⟩ := h
  exact ⟨f, h1.below hb h1.lt, h2, fun s v hs => (h3 s v hs).below hb⟩

theorem Half.fresh {ids : List Str} {k : Nat} {f : Str → Option Value} {s : Str} (hk : k < ids.length) (hn : ids.Nodup) (hs : s = ids[k]) (h2 : ∀ s, s ∈ ids.take k ↔ (f s).isSome = true) : f s = none := by
  cases hh : f s with
  | none => rfl
  | some v => exact absurd ((h2 s).2 (by rw [hh]; rfl)) (by rw [hs]; exact notin_take_of_nodup hn hk)

theorem Half.step {w w' : World} {M : Nat} {ids : List Str} {C : Str → List Str} {k : Nat} {f : Str → Option Value} {s : Str} {v : Value} (hk : k < ids.length) (hs : s = ids[k])
    (h1 : MapAt w M f k) (h2 : ∀ s, s ∈ ids.take k ↔ (f s).isSome = true) (h3 : ∀ s v, f s = some v → SV w v (C s)) (hv : SV w v (C s))
    (h4 : MapAt w' M (upd f s v) (k + 1)) (hg : w.grownBy w' (some M)) : Half w' M ids C (k + 1) := by
  refine ⟨_, h4, fun t => ?_, fun t u ht => ?_⟩
  · rw [take_snoc hk, ← hs]
    simp only [List.mem_append, List.mem_singleton]
    by_cases e : t = s
    · simp [upd, e]
    · simp [upd, e, h2 t]
  · by_cases e : t = s
    · subst e
      simp only [upd, if_true, Option.some.injEq] at ht
      subst ht
      exact hv.mapGrown h1.noCell hg
    · simp only [upd, e, if_false] at ht
      exact (h3 t u ht).mapGrown h1.noCell hg

set_option maxHeartbeats 1000000 in
theorem copyChildren_any (w : World) (mv iv : Value) (keys ids : List Str) (C : Str → List Str) (hids : SV w iv ids) (hch : ChMap w mv keys C) (hsmall : ids.length ≤ 65536) (hn : ids.Nodup) (hk : ∀ s, s ∈ ids ↔ s ∈ keys)
    (hC : ∀ s, (C s).length ≤ 65536) :
    Calls Try.prog 8 #[mv, iv] w fun e w' => ∃ v, e = .returned v ∧ ChMap w' v ids C ∧ Below w.heap.size w w' := by
  obtain ⟨i0, hi, hz0, hz1, hz2⟩ := info_parts info9
  obtain ⟨ia, icap, rfl⟩ := hids.len
  have h0 : ∀ s, s ∉ ids → C s = [] := fun s hs => hch.2.1 s (fun h => hs ((hk s).2 h))
  have HN : Hid (ids.Nodup) := hn
  have HK : Hid (∀ s, s ∈ ids ↔ s ∈ keys) := hk
  have H0 : Hid (∀ s, s ∉ ids → C s = []) := h0
  clear hn hk h0
  have hmm := @run_makeMap Try.prog
  have hmv : (mv = .map none ∧ keys = []) ∨ ∃ b, mv = .map (some b) := by
    obtain ⟨_, _, h | ⟨b, f, h, _⟩⟩ := hch
    · exact Or.inl h
    · exact Or.inr ⟨b, h⟩
  rcases hmv with ⟨rfl, rfl⟩ | ⟨cb, rfl⟩
  · have hnil := fun W => run_eql_map_nil (P := Try.prog) W 22 9 23 none Try.underlying22
    go_enter Try.func8, Try.ntmps8
    go_wp2
    go_ret
    have hids0 : ids = [] := List.eq_nil_iff_forall_not_mem.2 (fun s hs => by have := (HK.out s).1 hs; cases this)
    exact ⟨_, rfl, ⟨HN.out, H0.out, Or.inl ⟨rfl, hids0⟩⟩, Below.refl _ _⟩
  · have hnil := fun W => run_eql_map_nil (P := Try.prog) W 22 9 23 (some cb) Try.underlying22
    go_enter Try.func8, Try.ntmps8
    go_wp2
    clear hnil
    go_loopg [6] (ids.length) (fun g i wr => ∃ k : Nat, k ≤ ids.length ∧ g = ids.length - k ∧ i = .int .i64 k ∧ Half wr w.heap.size ids C k ∧ Below w.heap.size w wr)
    case atStart => exact ⟨0, by omega, by omega, rfl, ⟨_, MapAt.made w, by simp, by simp⟩, (Below.refl _ _).alloc (Nat.le_refl _) _⟩
    case round =>
      obtain ⟨k, hk, rfl, rfl, hhalf, hnx⟩ := hrel
      by_cases hlt : k < ids.length
      · obtain ⟨b, off, s, rfl, hb, HS, hsl, hck0⟩ := hids.get hlt
        have hck : wr.cell? ⟨b, off + k, none⟩ = some (.string (bs s)) := (hnx.cell (p := ⟨b, off + k, none⟩) hb).trans hck0
        obtain ⟨la, lcap, hr, hlv⟩ := (hch.below hnx).get hsl
        have hll := hC s
        have hneq := fun W => run_neq_slice_nil_any (P := Try.prog) W 23 9 la (C s).length lcap 0 0 Try.underlying23
        cases la with
        | none =>
          obtain ⟨f, m1, m2, m3⟩ := hhalf
          have hfr := Half.fresh hlt HN.out HS.out m2
          have HM2 : Hid (∀ s, s ∈ ids.take k ↔ (f s).isSome = true) := m2
          have HM3 : Hid (∀ s v, f s = some v → SV wr v (C s)) := m3
          clear m2 m3
          go_wp2_with (at_mapUpdate; refine wpList_mapNew _ rfl _ _ _ 22 rfl 23 Try.underlying22 w.heap.size _ _ rfl m1 s _ rfl rfl hsl hfr ?_)
          intro w1 hm1 hg1
          have hnx1 : Below w.heap.size w w1 := hnx.grown hg1 hnx.size (fun j hj => by cases hj; exact Nat.le_refl _)
          have hhalf1 := Half.step hlt HS.out m1 HM2.out HM3.out (by rw [hlv.nilEmpty]; exact SV.nil wr) hm1 hg1
          clear hm1 hg1 m1 hr hck hneq hmm
          go_wp2
          go_roundg (ids.length - (k + 1))
          case measure => omega
          case rel => exact ⟨k + 1, by omega, rfl, by go_num, hhalf1, hnx1⟩
        | some lad =>
          go_wp2_with (at_make; refine wpList_make_full _ rfl _ _ 23 rfl wr.heap.size 9 i0 (.string (bs [])) 1 Try.underlying23 hi hz0 hz1 _ _ _ _ (C s).length rfl rfl rfl rfl (by rw [hz2]; omega) (by unfold maxLen; omega) (Nat.le_refl _) ?_)
          intro w1 hown hg
          have hrow := made_row (ss := C s) rfl hown
          have hnx1 : Below wr.heap.size wr w1 := (Below.refl _ _).grown hg (Nat.le_refl _) (fun j hj => by cases hj)
          clear hown hg hneq hr hmm
          go_wp2
          go_loopg [9] ((C s).length) (fun g i wr' => ∃ j : Nat, j ≤ (C s).length ∧ g = (C s).length - j ∧ i = .int .i64 j ∧ RowAt wr' wr.heap.size (part (C s) j) ∧ Below wr.heap.size wr wr')
          case atStart => exact ⟨0, by omega, by omega, rfl, hrow, hnx1⟩
          case round =>
            clear hrow hnx1
            rename World => w2
            obtain ⟨j, hj, rfl, rfl, hrow, hnx2⟩ := hrel
            by_cases hlt2 : j < (C s).length
            · obtain ⟨b2, off2, c, ha, hb2, HC, hcl, hcj0⟩ := hlv.get hlt2
              cases ha
              have hcj : w2.cell? ⟨b2, off2 + j, none⟩ = some (.string (bs c)) := (hnx2.cell (p := ⟨b2, off2 + j, none⟩) hb2).trans hcj0
              have hd : w2.cell? ⟨wr.heap.size, j, none⟩ = some (.string (bs [])) := (hrow.cell j).trans (part_at hlt2)
              have hf := hrow.frozen j
              go_wp2
              go_roundg ((C s).length - (j + 1))
              case measure => omega
              case rel => exact ⟨j + 1, by omega, rfl, by go_num, by rw [← part_set hlt2, ← HC.out]; exact hrow.set j _, hnx2.setCell (Nat.le_refl _) _⟩
            · rw [part_full (by omega)] at hrow
              have hsv := hrow.sv (by unfold maxLen; omega) hlv.size
              obtain ⟨f, m1, m2, m3⟩ := hhalf.below (B := 0) hnx2
              have hfr := Half.fresh hlt HN.out HS.out m2
              have HM2 : Hid (∀ s, s ∈ ids.take k ↔ (f s).isSome = true) := m2
              have HM3 : Hid (∀ s v, f s = some v → SV w2 v (C s)) := m3
              have hck2 : w2.cell? ⟨b, off + k, none⟩ = some (.string (bs s)) := (hnx2.cell (p := ⟨b, off + k, none⟩) (Nat.lt_of_lt_of_le hb hnx.size)).trans hck
              clear m2 m3 hrow
              go_wp2_with (at_mapUpdate; refine wpList_mapNew _ rfl _ _ _ 22 rfl 23 Try.underlying22 w.heap.size _ _ rfl m1 s _ rfl rfl hsl hfr ?_)
              intro w3 hm1 hg1
              have hnx3 : Below w.heap.size w w2 := hnx.trans (hnx2.mono hnx.size)
              have hnx1 : Below w.heap.size w w3 := hnx3.grown hg1 hnx3.size (fun j hj => by cases hj; exact Nat.le_refl _)
              have hhalf1 := Half.step hlt HS.out m1 HM2.out HM3.out hsv hm1 hg1
              clear hm1 hg1 m1 hck hck2
              go_wp2
              go_roundg (ids.length - (k + 1))
              case measure => omega
              case rel => exact ⟨k + 1, by omega, rfl, by go_num, hhalf1, hnx1⟩
      · go_wp2
        go_ret
        obtain ⟨f, m1, m2, m3⟩ := hhalf
        have e : k = ids.length := by omega
        subst e
        rw [List.take_length] at m2
        exact ⟨_, rfl, ⟨HN.out, H0.out, Or.inr ⟨_, f, rfl, m1, m2, m3⟩⟩, hnx⟩

end Go.Proofs.Qxb6601503a
