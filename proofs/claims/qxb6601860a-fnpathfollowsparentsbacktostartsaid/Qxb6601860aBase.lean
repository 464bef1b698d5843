/-
  Views of memory for the walks of this seat: slices of ints.
-/
import Derived.Test.Qxb6601860aRows
import Derived.Test.Qxb6601860aPlain
import Derived.WalkKit
import Derived.WalkSpells
import Derived.WalkLawsBesides
import Derived.Laws.CopyOwn
import Derived.Deep.LoopGhost
import Derived.BigQuiet
import Derived.Deep.QuietTactic
namespace Go.Proofs.Qxb6601860a
open Go.RowKit
set_option linter.unusedVariables false

theorem hide {p : Prop} (h : p) : Hid p := h
theorem ret_bool {a b : Bool} (h : a = b) : Ending.returned (.bool a) = .returned (.bool b) := by rw [h]

theorem cell_lt {w : World} {b off : Nat} {v : Value} (h : w.cell? ⟨b, off, none⟩ = some v) : b < w.heap.size := by
  unfold World.cell? at h
  cases hh : w.heap[b]? with
  | none => simp [hh] at h
  | some o => exact (Array.getElem?_eq_some_iff.1 hh).1

/-- A number that fits an int. -/
def Fits (z : Int) : Prop := -9223372036854775808 ≤ z ∧ z ≤ 9223372036854775807

/-- The slice value v reads as the numbers zs. -/
def IV (w : World) (v : Value) (zs : List Int) : Prop :=
  ∃ a cap, v = .slice a zs.length cap ∧ (a = none → cap = 0) ∧ zs.length ≤ cap ∧ cap ≤ maxLen ∧ (∀ z ∈ zs, Fits z) ∧
    ∀ j, j < zs.length → ∃ b off, a = some ⟨b, off, none⟩ ∧ w.cell? ⟨b, off + j, none⟩ = some (.int .i64 (zs.getD j 0))

/-- At one index, the value's form given. -/
theorem IV.get {w : World} {a : Option Addr} {n cap : Nat} {zs : List Int} (h : IV w (.slice a n cap) zs) {k : Nat} (hk : k < zs.length) :
    ∃ b off z, a = some ⟨b, off, none⟩ ∧ b < w.heap.size ∧ Hid (z = zs.getD k 0) ∧ -9223372036854775808 ≤ z ∧ z ≤ 9223372036854775807 ∧ w.cell? ⟨b, off + k, none⟩ = some (.int .i64 z) := by
  obtain ⟨a', cap', hv, _, _, _, hs, hc⟩ := h
  simp only [Value.slice.injEq] at hv
  obtain ⟨rfl, _, _⟩ := hv
  obtain ⟨b, off, rfl, hck⟩ := hc k hk
  have hf := hs (zs.getD k 0) (by rw [List.getD, List.getElem?_eq_getElem hk]; exact List.getElem_mem hk)
  exact ⟨b, off, _, rfl, cell_lt hck, rfl, hf.1, hf.2, hck⟩

theorem IV.len {w : World} {v : Value} {zs : List Int} (h : IV w v zs) : ∃ a cap, v = .slice a zs.length cap := by
  obtain ⟨a, cap, rfl, _⟩ := h
  exact ⟨a, cap, rfl⟩

theorem IV.le {w : World} {v : Value} {zs : List Int} (h : IV w v zs) : zs.length ≤ 9223372036854775807 := by
  obtain ⟨a, cap, rfl, _, h1, h2, _⟩ := h
  exact Nat.le_trans h1 h2

theorem IV.nil (w : World) : IV w (.slice none 0 0) [] :=
  ⟨none, 0, rfl, fun _ => rfl, Nat.le_refl _, Nat.zero_le _, by simp, by simp⟩

theorem IV.nilEmpty {w : World} {n cap : Nat} {zs : List Int} (h : IV w (.slice none n cap) zs) : zs = [] := by
  obtain ⟨a, cap', hv, h0, h1, _⟩ := h
  simp only [Value.slice.injEq] at hv
  have := h0 hv.1.symm
  exact List.eq_nil_of_length_eq_zero (by omega)

theorem IV.below {w w' : World} {v : Value} {zs : List Int} (h : IV w v zs) (hb : Below w.heap.size w w') : IV w' v zs := by
  obtain ⟨a, cap, hv, h0, h1, h2, h3, h4⟩ := h
  refine ⟨a, cap, hv, h0, h1, h2, h3, fun j hj => ?_⟩
  obtain ⟨b, off, ha, hc⟩ := h4 j hj
  exact ⟨b, off, ha, (hb.cell (p := ⟨b, off + j, none⟩) (cell_lt hc)).trans hc⟩

theorem IV.fits {w : World} {v : Value} {zs : List Int} (h : IV w v zs) : ∀ z ∈ zs, Fits z := by
  obtain ⟨a, cap, hv, h0, h1, h2, h3, h4⟩ := h
  exact h3

/-! ### a slice of ints that the call made and appends to -/
def IStack (w : World) (base : Nat) (v : Value) (zs : List Int) : Prop := w.ownsRow base 3 1 v zs.length (zs.map (Value.int .i64))

theorem IStack.nil (w : World) (base : Nat) : IStack w base (.slice none 0 0) [] := World.ownsRow_nil _ _ _ _

theorem IStack.form {w : World} {base : Nat} {v : Value} {zs : List Int} (h : IStack w base v zs) : ∃ a cap, v = .slice a zs.length cap := by
  rcases h.2 with ⟨rfl, h0⟩ | ⟨g, cap, cur, hv, _⟩
  · exact ⟨none, 0, by rw [h0]⟩
  · exact ⟨_, cap, hv⟩

theorem IStack.alloc {w : World} {base : Nat} {v : Value} {zs : List Int} (h : IStack w base v zs) (o : Obj) : IStack (w.alloc o) base v zs := World.ownsRow.alloc h o

theorem IStack.rowGe {w : World} {base : Nat} {v : Value} {zs : List Int} (h : IStack w base v zs) : ∀ k, v.ownBlock = some k → base ≤ k := fun k hk => (h.lt k hk).1

theorem IStack.appended {w : World} {base : Nat} {v : Value} {zs : List Int} {z : Int} (h : w.ownsRow base 3 1 v (zs.length + 1) ((zs.map (Value.int .i64)) ++ [.int .i64 z])) : IStack w base v (zs ++ [z]) := by
  unfold IStack
  simpa using h

theorem IStack.iv {w : World} {base : Nat} {v : Value} {zs : List Int} (h : IStack w base v zs) (hz : ∀ z ∈ zs, Fits z) : IV w v zs := by
  have h' := h
  rcases h.2 with ⟨rfl, h1⟩ | ⟨g, cap, cur, rfl, _, _, hn, hm, _⟩
  · have : zs = [] := List.eq_nil_of_length_eq_zero h1
    subst this
    exact IV.nil w
  · refine ⟨some ⟨g, 0, none⟩, cap, rfl, (fun e => by cases e), hn, hm, hz, fun j hj => ⟨g, 0, rfl, ?_⟩⟩
    rw [Nat.zero_add, World.ownsRow.cellAt h' j (by omega)]
    simp [List.getD, hj]

theorem info3 : (Try.prog.info? 3).map (fun i => (i.zero, i.size, i.bytes)) = some (some (.int .i64 0), 1, 8) := by kernel_rfl
theorem size3 : (Try.prog.info? 3).map (·.size) = some 1 := by kernel_rfl

/-- A row that was made and copied over. -/
theorem copied_iv {w : World} {g n : Nat} {cur : List Value} {zs : List Int} (hn : n = zs.length) (hl : cur.length = zs.length) (h : w.heap[g]? = some (.cells (splice cur 0 (zs.map (Value.int .i64))).toArray 3 (0, 0))) (hm : zs.length ≤ maxLen) (hz : ∀ z ∈ zs, Fits z) :
    IV w (.slice (some ⟨g, 0, none⟩) n n) zs := by
  subst hn
  have e : splice cur 0 (zs.map (Value.int .i64)) = zs.map (Value.int .i64) := by
    unfold splice
    rw [List.take_zero, List.nil_append, List.length_map, Nat.zero_add, ← hl, List.drop_length, List.append_nil]
  rw [e] at h
  refine ⟨some ⟨g, 0, none⟩, zs.length, rfl, (fun e => by cases e), Nat.le_refl _, hm, hz, fun j hj => ⟨g, 0, rfl, ?_⟩⟩
  simp [World.cell?, h, List.getD, hj]

theorem made_block {w w' : World} {base n : Nat} (h : w'.ownsRow base 3 1 (.slice (some ⟨w.heap.size, 0, none⟩) n n) n (madeCells #[Value.int .i64 0] n).toList) : ∃ cur : List Value, cur.length = n ∧ w'.heap[w.heap.size]? = some (.cells cur.toArray 3 (0, 0)) := by
  obtain ⟨hl, ⟨h1, _⟩ | ⟨g, cap, cur, hv, _, hh, _, _, hsz, htk⟩⟩ := h
  · cases h1
  · simp only [Value.slice.injEq, Option.some.injEq, Addr.mk.injEq, and_true, true_and] at hv
    obtain ⟨rfl, rfl⟩ := hv
    exact ⟨cur.toList, by simpa using hsz, by simpa using hh⟩

set_option maxHeartbeats 400000 in
theorem clone_any (w : World) (v : Value) (zs : List Int) (hv : IV w v zs) (hsmall : zs.length ≤ 65536) :
    Calls Try.prog 9 #[v] w fun e w' => ∃ u, e = .returned u ∧ IV w' u zs ∧ Below w.heap.size w w' := by
  obtain ⟨i0, hi, hz0, hz1, hz2⟩ := info_parts info3
  obtain ⟨va, vcap, rfl⟩ := hv.len
  have hnil := fun W => Lib.run_eql_slice_nil (P := Try.prog) W 22 3 va zs.length vcap 0 0 Try.underlying22
  cases va with
  | none =>
    go_enter Try.func9, Try.ntmps9
    go_wp2
    go_ret
    exact ⟨_, rfl, by rw [hv.nilEmpty]; exact IV.nil w, Below.refl _ _⟩
  | some a =>
    go_enter Try.func9, Try.ntmps9
    go_wp2_with (at_make; refine wpList_make_full _ rfl _ _ 22 rfl w.heap.size 3 i0 (.int .i64 0) 1 Try.underlying22 hi hz0 hz1 _ _ _ _ zs.length rfl rfl rfl rfl (by rw [hz2]; omega) (by unfold maxLen; omega) (Nat.le_refl _) ?_)
    intro w1 hown hg
    have hnx1 : Below w.heap.size w w1 := (Below.refl _ _).grown hg (Nat.le_refl _) (fun j hj => by cases hj)
    obtain ⟨cur, hcl, hcur⟩ := made_block hown
    have HCL := hide hcl
    have HCUR := hide hcur
    have hv1 := hv.below hnx1
    clear hown hg hnil hcl hcur
    go_wp2_with (refine wpList_copy_splice rfl _ _ 22 22 rfl 3 Try.underlying22 size3 _ _ _ _ _ _ rfl rfl w.heap.size 0 cur 3 HCUR.out (zs.map (Value.int .i64)) (by simp) ?_ (by rw [HCL.out]; simp) (ints_oneCell _ _) w.heap.size w hnx1 (Nat.le_refl _) ?_)
    · intro _ j z hz
      have hj : j < zs.length := (List.getElem?_eq_some_iff.1 hz).1
      obtain ⟨b, off, z', ha, _, HZ, _, _, hc⟩ := hv1.get hj
      cases ha
      rw [Addr.add_lit, hc, HZ.out]
      simp [List.getD, hz]
    · intro w2 HR hb2
      have HIV := hide (copied_iv (n := zs.length) rfl HCL.out HR.out (by unfold maxLen; omega) hv.fits)
      clear HR HCUR hv1 hnx1
      go_wp2
      go_ret
      exact ⟨_, rfl, HIV.out, hb2⟩

end Go.Proofs.Qxb6601860a
