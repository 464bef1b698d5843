/-
  Views of memory for the walks of this seat: strings as lists of bytes, slices of strings.
-/
import Derived.Test.Qxb6601823aRows
import Derived.WalkKit
import Derived.WalkSpells
import Derived.WalkLawsBesides
import Derived.Deep.LoopGhost
import Derived.SliceStrings
import Derived.ProofKit
namespace Go.Proofs.Qxb6601823a
open Go.RowKit
set_option linter.unusedVariables false

abbrev Str := List UInt8
theorem hide {p : Prop} (h : p) : Hid p := h
theorem take_snoc {l : List Str} {j : Nat} (hj : j < l.length) : l.take (j + 1) = l.take j ++ [l[j]] := List.take_succ_eq_append_getElem hj

def bs (s : Str) : ByteArray := ⟨s.toArray⟩
theorem bs_toList (s : Str) : (bs s).toList = s := ByteArray.toList_mk s
theorem bs_size (s : Str) : (bs s).size = s.length := by simp [bs, ByteArray.size]
theorem bs_inj {s t : Str} (h : bs s = bs t) : s = t := by rw [← bs_toList s, h, bs_toList]
theorem bs_data (b : ByteArray) : bs b.data.toList = b := by cases b; simp [bs]

theorem ret_bool {a b : Bool} (h : a = b) : Ending.returned (.bool a) = .returned (.bool b) := by rw [h]
theorem ret_int {k : IntKind} {a b : Int} (h : a = b) : Ending.returned (.int k a) = .returned (.int k b) := by rw [h]

theorem cell_lt {w : World} {b off : Nat} {v : Value} (h : w.cell? ⟨b, off, none⟩ = some v) : b < w.heap.size := by
  unfold World.cell? at h
  cases hh : w.heap[b]? with
  | none => simp [hh] at h
  | some o => exact (Array.getElem?_eq_some_iff.1 hh).1

/-! ### a slice of strings -/

/-- The slice value v reads as the strings ss. -/
def SV (w : World) (v : Value) (ss : List Str) : Prop :=
  ∃ a cap, v = .slice a ss.length cap ∧ (a = none → cap = 0) ∧ ss.length ≤ cap ∧ cap ≤ maxLen ∧ (∀ s ∈ ss, s.length ≤ maxLen) ∧
    ∀ j (h : j < ss.length), ∃ b off, a = some ⟨b, off, none⟩ ∧ w.cell? ⟨b, off + j, none⟩ = some (.string (bs ss[j]))

/-- At one index, the value's form given. -/
theorem SV.get {w : World} {a : Option Addr} {n cap : Nat} {ss : List Str} (h : SV w (.slice a n cap) ss) {k : Nat} (hk : k < ss.length) :
    ∃ b off s, a = some ⟨b, off, none⟩ ∧ b < w.heap.size ∧ Hid (s = ss[k]) ∧ s.length ≤ maxLen ∧ w.cell? ⟨b, off + k, none⟩ = some (.string (bs s)) := by
  obtain ⟨a', cap', hv, _, _, _, hs, hc⟩ := h
  simp only [Value.slice.injEq] at hv
  obtain ⟨rfl, _, _⟩ := hv
  obtain ⟨b, off, rfl, hck⟩ := hc k hk
  exact ⟨b, off, _, rfl, cell_lt hck, rfl, hs _ (List.getElem_mem hk), hck⟩

theorem SV.len {w : World} {v : Value} {ss : List Str} (h : SV w v ss) : ∃ a cap, v = .slice a ss.length cap := by
  obtain ⟨a, cap, rfl, _⟩ := h
  exact ⟨a, cap, rfl⟩

theorem SV.le {w : World} {v : Value} {ss : List Str} (h : SV w v ss) : ss.length ≤ 9223372036854775807 := by
  obtain ⟨a, cap, rfl, _, h1, h2, _⟩ := h
  exact Nat.le_trans h1 h2

theorem SV.size {w : World} {v : Value} {ss : List Str} (h : SV w v ss) : ∀ s ∈ ss, s.length ≤ maxLen := by
  obtain ⟨a, cap, rfl, _, _, _, h3, _⟩ := h
  exact h3

theorem SV.nil (w : World) : SV w (.slice none 0 0) [] :=
  ⟨none, 0, rfl, fun _ => rfl, Nat.le_refl _, Nat.zero_le _, by simp, by simp⟩

/-- It reads as it did where the cells are as they were. -/
theorem SV.kept {w w' : World} {v : Value} {ss : List Str} (h : SV w v ss) (hk : ∀ b off u, w.cell? ⟨b, off, none⟩ = some u → w'.cell? ⟨b, off, none⟩ = some u) : SV w' v ss := by
  obtain ⟨a, cap, hv, h0, h1, h2, h3, h4⟩ := h
  refine ⟨a, cap, hv, h0, h1, h2, h3, fun j hj => ?_⟩
  obtain ⟨b, off, ha, hc⟩ := h4 j hj
  exact ⟨b, off, ha, hk _ _ _ hc⟩

theorem SV.below {w w' : World} {v : Value} {ss : List Str} (h : SV w v ss) (hb : Below w.heap.size w w') : SV w' v ss :=
  h.kept fun b off u hc => (hb.cell (p := ⟨b, off, none⟩) (cell_lt hc)).trans hc

/-! ### a slice of strings that the call made and appends to -/

/-- The slice value v owns, among the blocks from base on, a row that begins with ss. -/
def Stack (w : World) (base : Nat) (v : Value) (ss : List Str) : Prop := w.ownsRow base 9 1 v ss.length (ss.map fun s => .string (bs s))

theorem Stack.nil (w : World) (base : Nat) : Stack w base (.slice none 0 0) [] := World.ownsRow_nil _ _ _ _

theorem Stack.form {w : World} {base : Nat} {v : Value} {ss : List Str} (h : Stack w base v ss) : ∃ a cap, v = .slice a ss.length cap := by
  rcases h.2 with ⟨rfl, h0⟩ | ⟨g, cap, cur, hv, _⟩
  · exact ⟨none, 0, by rw [h0]⟩
  · exact ⟨_, cap, hv⟩

theorem Stack.get {w : World} {base : Nat} {a : Option Addr} {n cap : Nat} {ss : List Str} (h : Stack w base (.slice a n cap) ss) {k : Nat} (hk : k < ss.length) :
    ∃ g s, a = some ⟨g, 0, none⟩ ∧ base ≤ g ∧ ss.length ≤ cap ∧ Hid (s = ss[k]) ∧ w.cell? ⟨g, k, none⟩ = some (.string (bs s)) := by
  have h' := h
  rcases h.2 with ⟨h0, h1⟩ | ⟨g, cap', cur, hv, hb, _, hn, _⟩
  · omega
  · simp only [Value.slice.injEq] at hv
    obtain ⟨rfl, rfl, rfl⟩ := hv
    refine ⟨g, _, rfl, hb, hn, rfl, ?_⟩
    rw [World.ownsRow.cellAt h' k (by omega)]
    simp [hk]

theorem Stack.alloc {w : World} {base : Nat} {v : Value} {ss : List Str} (h : Stack w base v ss) (o : Obj) : Stack (w.alloc o) base v ss := World.ownsRow.alloc h o

theorem Stack.kept {w w' : World} {base m : Nat} {v : Value} {ss : List Str} (h : Stack w base v ss) (hg : w.grownBy w' (some m)) (hm : m < base) : Stack w' base v ss :=
  World.ownsRow.kept h hg (by
    cases hv : v.ownBlock with
    | none => exact Or.inl rfl
    | some g =>
      right
      have := (h.lt g hv).1
      simp only [ne_eq, Option.some.injEq]
      omega)

theorem Stack.rowGe {w : World} {base : Nat} {v : Value} {ss : List Str} (h : Stack w base v ss) : ∀ k, v.ownBlock = some k → base ≤ k := fun k hk => (h.lt k hk).1

theorem Stack.rowNe {w : World} {base m : Nat} {v : Value} {ss : List Str} (h : Stack w base v ss) (hm : m < base) : some m ≠ v.ownBlock := fun e => by
  have := h.rowGe m e.symm
  omega

theorem Stack.pop {w : World} {base g cap : Nat} {ss : List Str} {s : Str} {n : Nat} (h : Stack w base (.slice (some ⟨g, 0, none⟩) n cap) (ss ++ [s])) : Stack w base (.slice (some ⟨g, 0, none⟩) ss.length cap) ss := by
  obtain ⟨a, cap', hv⟩ := h.form
  simp only [Value.slice.injEq] at hv
  obtain ⟨_, rfl, _⟩ := hv
  have h' : w.ownsRow base 9 1 (.slice (some ⟨g, 0, none⟩) (ss.length + 1) cap) (ss.length + 1) ((ss.map fun s => .string (bs s)) ++ [.string (bs s)]) := by
    have := h
    unfold Stack at this
    simpa using this
  exact ownsRow_pop (by simp) h'

theorem Stack.zero {w : World} {base g cap n : Nat} {ss : List Str} (h : Stack w base (.slice (some ⟨g, 0, none⟩) n cap) ss) : Stack w base (.slice (some ⟨g, 0, none⟩) 0 cap) [] := by
  rcases h.2 with ⟨h0, _⟩ | ⟨g', cap', cur, hv, hb, hh, hn, hm, hs, _⟩
  · cases h0
  · simp only [Value.slice.injEq] at hv
    obtain ⟨hg, _, rfl⟩ := hv
    cases hg
    exact ⟨rfl, Or.inr ⟨g, cap, cur, rfl, hb, hh, Nat.zero_le _, hm, hs, by simp⟩⟩

theorem Stack.appended {w : World} {base n : Nat} {v : Value} {ss : List Str} {s : Str} (h : w.ownsRow base 9 1 v (ss.length + 1) ((ss.map fun s => .string (bs s)) ++ [.string (bs s)])) : Stack w base v (ss ++ [s]) := by
  unfold Stack
  simpa using h

theorem Stack.sv {w : World} {base : Nat} {v : Value} {ss : List Str} (h : Stack w base v ss) (hs : ∀ s ∈ ss, s.length ≤ maxLen) : SV w v ss := by
  obtain ⟨a, cap, rfl⟩ := h.form
  rcases h.2 with ⟨h0, h1⟩ | ⟨g, cap', cur, hv, _, _, hn, hm, _⟩
  · have : ss = [] := List.eq_nil_of_length_eq_zero h1
    subst this
    rw [h0]
    exact SV.nil w
  · simp only [Value.slice.injEq] at hv
    obtain ⟨rfl, _, rfl⟩ := hv
    refine ⟨_, _, rfl, (fun e => by cases e), hn, hm, hs, fun j hj => ?_⟩
    obtain ⟨g', s, e, _, _, HS, hc⟩ := h.get hj
    exact ⟨g', 0, e, by rw [Nat.zero_add, hc, HS.out]⟩

/-! ### a row of strings that the call made -/

/-- Block g is a row of the cells vs. -/
def RowAt (w : World) (g : Nat) (vs : List Value) : Prop := w.heap[g]? = some (.cells vs.toArray 9 (0, 0))

theorem RowAt.cell {w : World} {g : Nat} {vs : List Value} (h : RowAt w g vs) (j : Nat) : w.cell? ⟨g, j, none⟩ = vs[j]? := by
  unfold RowAt at h
  simp [World.cell?, h]

theorem RowAt.frozen {w : World} {g : Nat} {vs : List Value} (h : RowAt w g vs) (j : Nat) : w.frozen? ⟨g, j, none⟩ = false := by
  unfold RowAt at h
  simp [World.frozen?, h]

theorem RowAt.lt {w : World} {g : Nat} {vs : List Value} (h : RowAt w g vs) : g < w.heap.size := (Array.getElem?_eq_some_iff.1 h).1

theorem RowAt.set {w : World} {g : Nat} {vs : List Value} (h : RowAt w g vs) (k : Nat) (v : Value) : RowAt (w.setCell ⟨g, k, none⟩ v) g (vs.set k v) := by
  unfold RowAt at h ⊢
  rw [show (w.setCell ⟨g, k, none⟩ v).heap[g]? = _ from Array.getElem?_modify, if_pos rfl, h]
  simp

/-- The strings so far, then blanks. -/
def part (ss : List Str) (k : Nat) : List Value := (ss.take k).map (fun s => .string (bs s)) ++ List.replicate (ss.length - k) (.string (bs []))

theorem part_at {ss : List Str} {k : Nat} (hk : k < ss.length) : (part ss k)[k]? = some (.string (bs [])) := by
  unfold part
  have h1 : ((ss.take k).map (fun s => Value.string (bs s))).length = k := by simp; omega
  rw [List.getElem?_append_right (by omega), h1, List.getElem?_replicate]
  simp; omega

theorem part_set {ss : List Str} {k : Nat} (hk : k < ss.length) : (part ss k).set k (.string (bs ss[k])) = part ss (k + 1) := by
  unfold part
  have h1 : ((ss.take k).map (fun s => Value.string (bs s))).length = k := by simp; omega
  rw [List.set_append_right (h := by omega), h1, take_snoc hk, List.map_append, List.append_assoc]
  congr 1
  rw [show ss.length - k = (ss.length - (k + 1)) + 1 by omega, List.replicate_succ, Nat.sub_self, List.set_cons_zero]
  rfl

theorem part_full {ss : List Str} {k : Nat} (hk : ss.length ≤ k) : part ss k = ss.map (fun s => .string (bs s)) := by
  unfold part
  rw [List.take_of_length_le hk, Nat.sub_eq_zero_of_le hk]
  simp

theorem RowAt.sv {w : World} {g : Nat} {ss : List Str} (h : RowAt w g (ss.map (fun s => .string (bs s)))) (hl : ss.length ≤ maxLen) (hs : ∀ s ∈ ss, s.length ≤ maxLen) : SV w (.slice (some ⟨g, 0, none⟩) ss.length ss.length) ss := by
  refine ⟨some ⟨g, 0, none⟩, ss.length, rfl, (fun e => by cases e), Nat.le_refl _, hl, hs, fun j hj => ⟨g, 0, rfl, ?_⟩⟩
  rw [Nat.zero_add, h.cell j]
  simp [hj]

theorem info9 : (Try.prog.info? 9).map (fun i => (i.zero, i.size, i.bytes)) = some (some (.string (bs [])), 1, 16) := by kernel_rfl

theorem made_row {w w' : World} {base n : Nat} {ss : List Str} (hn : n = ss.length) (h : w'.ownsRow base 9 1 (.slice (some ⟨w.heap.size, 0, none⟩) n n) n (madeCells #[Value.string (bs [])] n).toList) : RowAt w' w.heap.size (part ss 0) := by
  subst hn
  obtain ⟨hl, ⟨h1, _⟩ | ⟨g, cap, cur, hv, _, hh, _, _, hsz, htk⟩⟩ := h
  · cases h1
  · simp only [Value.slice.injEq, Option.some.injEq, Addr.mk.injEq, and_true, true_and] at hv
    obtain ⟨rfl, rfl⟩ := hv
    have hcur : cur.toList = part ss 0 := by
      have e : cur.toList.take (ss.length * 1) = cur.toList := List.take_of_length_le (by simp [hsz])
      rw [← e, htk]
      unfold part
      apply List.ext_getElem
      · simp [madeCells]
      · intro i h1 h2
        simp [madeCells, Nat.mod_one]
    unfold RowAt
    rw [hh, ← hcur]

theorem SV.nilEmpty {w : World} {n cap : Nat} {ss : List Str} (h : SV w (.slice none n cap) ss) : ss = [] := by
  obtain ⟨a, cap', hv, h0, h1, _⟩ := h
  simp only [Value.slice.injEq] at hv
  have := h0 hv.1.symm
  exact List.eq_nil_of_length_eq_zero (by omega)

theorem cells9 : Try.prog.cellsOf 9 = 1 := by kernel_rfl

theorem addr_of_cell {w : World} {a : Addr} {u : Value} (h : w.cell? a = some u) : a = ⟨a.block, a.off, none⟩ := by
  unfold World.cell? at h
  cases hs : a.spot with
  | none => cases a; simp at hs; simp [hs]
  | some n =>
    rw [hs] at h
    split at h <;> simp at h

theorem sv_of_trod {H : Type} {enc : TypeId × Value → H} {W : World} {base : Nat} {sp : Nat → Bool} {held : Bool} {fuel : Nat} {v : Value} {x : DataW H × List MemPlace}
    (h : DataW.trod enc Try.prog W base sp held fuel 22 [v] = some x) : ∃ ss, SV W v ss := by
  rcases ChangeShapes.open_strings Try.underlying22 Try.underlying9 cells9 h with ⟨hcs, _⟩ | ⟨a, len, cap, ss, hcs, _, hl, hm, hz, _, hcell, hws⟩
  · simp at hcs
    subst hcs
    exact ⟨[], SV.nil W⟩
  · simp at hcs
    subst hcs
    have hle : len ≤ ss.length := by rw [hz]; split <;> omega
    have hlen : ((ss.take len).map (fun s => s.data.toList)).length = len := by simp; omega
    refine ⟨(ss.take len).map (fun s => s.data.toList), some a, cap, by rw [hlen], (fun e => by cases e), by rw [hlen]; exact hl, hm, ?_, ?_⟩
    · intro s hs
      obtain ⟨b, hb, rfl⟩ := List.mem_map.1 hs
      exact hws b (List.mem_of_mem_take hb)
    · intro j hj
      rw [hlen] at hj
      have h0 := hcell 0 (by omega)
      have ha : a = ⟨a.block, a.off, none⟩ := addr_of_cell (w := W) (by simpa [Addr.add] using h0)
      refine ⟨a.block, a.off, by rw [← ha], ?_⟩
      have hj' := hcell j (by omega)
      rw [ha, Addr.add_lit] at hj'
      simp only [List.getElem_map, List.getElem_take, bs_data]
      simpa [List.getD, show j < ss.length by omega] using hj'


end Go.Proofs.Qxb6601823a
