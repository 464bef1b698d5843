/-
  Views of memory for the walks of this seat: slices of int64, a map of int64 keyed by int64, an iterator over it.
-/
import Derived.Test.Qxb6601906aRows
import Derived.Test.Qxb6601906aPlain
import Derived.WalkKit
import Derived.Maps.OwnSet
import Derived.Maps.RangeWalk
import Derived.WalkSpells
import Derived.WalkLawsBesides
import Derived.Laws.CopyOwn
import Derived.Deep.LoopGhost
import Derived.BigQuiet
import Derived.Deep.QuietTactic
namespace Go.Proofs.Qxb6601906a
open Go.RowKit Go.Maps
set_option linter.unusedVariables false

theorem hide {p : Prop} (h : p) : Hid p := h
theorem ret_bool {a b : Bool} (h : a = b) : Ending.returned (.bool a) = .returned (.bool b) := by rw [h]

theorem cell_lt {w : World} {b off : Nat} {v : Value} (h : w.cell? ⟨b, off, none⟩ = some v) : b < w.heap.size := by
  unfold World.cell? at h
  cases hh : w.heap[b]? with
  | none => simp [hh] at h
  | some o => exact (Array.getElem?_eq_some_iff.1 hh).1

/-- A number that fits an int. -/
def Fits (z : Int) : Prop := -9223372036854775808 ≤ z ∧ z ≤ 9223372036854775807

/-- The slice value v reads as the numbers zs. -/
def IV (w : World) (v : Value) (zs : List Int) : Prop :=
  ∃ a cap, v = .slice a zs.length cap ∧ (a = none → cap = 0) ∧ zs.length ≤ cap ∧ cap ≤ maxLen ∧ (∀ z ∈ zs, Fits z) ∧
    ∀ j, j < zs.length → ∃ b off, a = some ⟨b, off, none⟩ ∧ w.cell? ⟨b, off + j, none⟩ = some (.int .i64 (zs.getD j 0))

/-- At one index, the value's form given. -/
theorem IV.get {w : World} {a : Option Addr} {n cap : Nat} {zs : List Int} (h : IV w (.slice a n cap) zs) {k : Nat} (hk : k < zs.length) :
    ∃ b off z, a = some ⟨b, off, none⟩ ∧ b < w.heap.size ∧ Hid (z = zs.getD k 0) ∧ -9223372036854775808 ≤ z ∧ z ≤ 9223372036854775807 ∧ w.cell? ⟨b, off + k, none⟩ = some (.int .i64 z) := by
  obtain ⟨a', cap', hv, _, _, _, hs, hc⟩ := h
  simp only [Value.slice.injEq] at hv
  obtain ⟨rfl, _, _⟩ := hv
  obtain ⟨b, off, rfl, hck⟩ := hc k hk
  have hf := hs (zs.getD k 0) (by rw [List.getD, List.getElem?_eq_getElem hk]; exact List.getElem_mem hk)
  exact ⟨b, off, _, rfl, cell_lt hck, rfl, hf.1, hf.2, hck⟩

theorem IV.len {w : World} {v : Value} {zs : List Int} (h : IV w v zs) : ∃ a cap, v = .slice a zs.length cap := by
  obtain ⟨a, cap, rfl, _⟩ := h
  exact ⟨a, cap, rfl⟩

theorem IV.le {w : World} {v : Value} {zs : List Int} (h : IV w v zs) : zs.length ≤ 9223372036854775807 := by
  obtain ⟨a, cap, rfl, _, h1, h2, _⟩ := h
  exact Nat.le_trans h1 h2

theorem IV.nil (w : World) : IV w (.slice none 0 0) [] :=
  ⟨none, 0, rfl, fun _ => rfl, Nat.le_refl _, Nat.zero_le _, by simp, by simp⟩

theorem IV.nilEmpty {w : World} {n cap : Nat} {zs : List Int} (h : IV w (.slice none n cap) zs) : zs = [] := by
  obtain ⟨a, cap', hv, h0, h1, _⟩ := h
  simp only [Value.slice.injEq] at hv
  have := h0 hv.1.symm
  exact List.eq_nil_of_length_eq_zero (by omega)

theorem IV.below {w w' : World} {v : Value} {zs : List Int} (h : IV w v zs) (hb : Below w.heap.size w w') : IV w' v zs := by
  obtain ⟨a, cap, hv, h0, h1, h2, h3, h4⟩ := h
  refine ⟨a, cap, hv, h0, h1, h2, h3, fun j hj => ?_⟩
  obtain ⟨b, off, ha, hc⟩ := h4 j hj
  exact ⟨b, off, ha, (hb.cell (p := ⟨b, off + j, none⟩) (cell_lt hc)).trans hc⟩

theorem IV.fits {w : World} {v : Value} {zs : List Int} (h : IV w v zs) : ∀ z ∈ zs, Fits z := by
  obtain ⟨a, cap, hv, h0, h1, h2, h3, h4⟩ := h
  exact h3

/-! ### a slice of ints that the call made and appends to -/
def IStack (w : World) (base : Nat) (v : Value) (zs : List Int) : Prop := w.ownsRow base 2 1 v zs.length (zs.map (Value.int .i64))

theorem IStack.nil (w : World) (base : Nat) : IStack w base (.slice none 0 0) [] := World.ownsRow_nil _ _ _ _

theorem IStack.form {w : World} {base : Nat} {v : Value} {zs : List Int} (h : IStack w base v zs) : ∃ a cap, v = .slice a zs.length cap := by
  rcases h.2 with ⟨rfl, h0⟩ | ⟨g, cap, cur, hv, _⟩
  · exact ⟨none, 0, by rw [h0]⟩
  · exact ⟨_, cap, hv⟩

theorem IStack.alloc {w : World} {base : Nat} {v : Value} {zs : List Int} (h : IStack w base v zs) (o : Obj) : IStack (w.alloc o) base v zs := World.ownsRow.alloc h o

theorem IStack.rowGe {w : World} {base : Nat} {v : Value} {zs : List Int} (h : IStack w base v zs) : ∀ k, v.ownBlock = some k → base ≤ k := fun k hk => (h.lt k hk).1

theorem IStack.appended {w : World} {base : Nat} {v : Value} {zs : List Int} {z : Int} (h : w.ownsRow base 2 1 v (zs.length + 1) ((zs.map (Value.int .i64)) ++ [.int .i64 z])) : IStack w base v (zs ++ [z]) := by
  unfold IStack
  simpa using h

theorem IStack.iv {w : World} {base : Nat} {v : Value} {zs : List Int} (h : IStack w base v zs) (hz : ∀ z ∈ zs, Fits z) : IV w v zs := by
  have h' := h
  rcases h.2 with ⟨rfl, h1⟩ | ⟨g, cap, cur, rfl, _, _, hn, hm, _⟩
  · have : zs = [] := List.eq_nil_of_length_eq_zero h1
    subst this
    exact IV.nil w
  · refine ⟨some ⟨g, 0, none⟩, cap, rfl, (fun e => by cases e), hn, hm, hz, fun j hj => ⟨g, 0, rfl, ?_⟩⟩
    rw [Nat.zero_add, World.ownsRow.cellAt h' j (by omega)]
    simp [List.getD, hj]

theorem info2 : (Try.prog.info? 2).map (fun i => (i.zero, i.size, i.bytes)) = some (some (.int .i64 0), 1, 8) := by kernel_rfl
theorem size2 : (Try.prog.info? 2).map (·.size) = some 1 := by kernel_rfl


/-! ### a row of numbers that the call made -/

/-- Block g is a row of the numbers xs. -/
def RowAt (w : World) (g : Nat) (xs : List Int) : Prop := w.heap[g]? = some (.cells (xs.map (Value.int .i64)).toArray 2 (0, 0))

theorem RowAt.cell {w : World} {g : Nat} {xs : List Int} (h : RowAt w g xs) {j : Nat} (hj : j < xs.length) : w.cell? ⟨g, j, none⟩ = some (.int .i64 (xs.getD j 0)) := by
  unfold RowAt at h
  simp [World.cell?, h, hj, List.getD]

theorem RowAt.frozen {w : World} {g : Nat} {xs : List Int} (h : RowAt w g xs) (j : Nat) : w.frozen? ⟨g, j, none⟩ = false := by
  unfold RowAt at h
  simp [World.frozen?, h]

theorem RowAt.lt {w : World} {g : Nat} {xs : List Int} (h : RowAt w g xs) : g < w.heap.size := (Array.getElem?_eq_some_iff.1 h).1

theorem RowAt.set {w : World} {g : Nat} {xs : List Int} (h : RowAt w g xs) (k : Nat) (v : Int) : RowAt (w.setCell ⟨g, k, none⟩ (.int .i64 v)) g (xs.set k v) := by
  unfold RowAt at h ⊢
  rw [show (w.setCell ⟨g, k, none⟩ (.int .i64 v)).heap[g]? = _ from Array.getElem?_modify, if_pos rfl, h]
  simp

theorem RowAt.kept {w w' : World} {g : Nat} {xs : List Int} (h : RowAt w g xs) (hb : w'.heap[g]? = w.heap[g]?) : RowAt w' g xs := hb.trans h

theorem RowAt.iv {w : World} {g n : Nat} {xs : List Int} (h : RowAt w g xs) (hn : n = xs.length) (hl : xs.length ≤ maxLen) (hz : ∀ z ∈ xs, Fits z) : IV w (.slice (some ⟨g, 0, none⟩) n n) xs := by
  subst hn
  refine ⟨some ⟨g, 0, none⟩, xs.length, rfl, (fun e => by cases e), Nat.le_refl _, hl, hz, fun j hj => ⟨g, 0, rfl, ?_⟩⟩
  rw [Nat.zero_add, h.cell hj]

theorem made_row {w w' : World} {base n : Nat} (h : w'.ownsRow base 2 1 (.slice (some ⟨w.heap.size, 0, none⟩) n n) n (madeCells #[Value.int .i64 0] n).toList) : RowAt w' w.heap.size (List.replicate n 0) := by
  obtain ⟨hl, ⟨h1, _⟩ | ⟨g, cap, cur, hv, _, hh, _, _, hsz, htk⟩⟩ := h
  · cases h1
  · simp only [Value.slice.injEq, Option.some.injEq, Addr.mk.injEq, and_true, true_and] at hv
    obtain ⟨rfl, rfl⟩ := hv
    have hcur : cur.toList = (List.replicate n (0 : Int)).map (Value.int .i64) := by
      have e : cur.toList.take (n * 1) = cur.toList := List.take_of_length_le (by simp [hsz])
      rw [← e, htk]
      apply List.ext_getElem
      · simp [madeCells]
      · intro i h1 h2
        simp [madeCells, Nat.mod_one]
    unfold RowAt
    rw [hh, ← hcur]

/-! ### a map of numbers -/

theorem law2 : Keyed Try.prog 2 := int_keyed Try.underlying2

theorem wf_of {x : Int} (h : Fits x) : (Lit.int .i64 x).wf = true := by
  have h1 := h.1
  have h2 := h.2
  simp only [Lit.wf, Bool.and_eq_true, decide_eq_true_eq]
  exact ⟨h1, h2⟩

theorem key2 {x : Int} (h : Fits x) : ∃ l, keyOf Try.prog 2 (.int .i64 x) = some l := ⟨_, keyOf_int_mk Try.underlying2 (wf_of h)⟩

/-- The entries es are those of the map ks, f. -/
structure Ents (es : Array MapEntry) (clock : Nat) (ks : List Int) (f : Int → Int) : Prop where
  keys : es.toList.map (·.key) = ks.map (Value.int .i64)
  vals : ∀ e ∈ es.toList, ∃ x, e.key = .int .i64 x ∧ e.val = .int .i64 (f x)
  nodup : ks.Nodup
  fits : ∀ x ∈ ks, Fits x ∧ Fits (f x)
  born : (es.toList.map (·.born)).Nodup
  clock : ∀ e ∈ es.toList, e.born < clock

/-- Block b is the map ks, f. -/
def MapI (w : World) (b : Nat) (ks : List Int) (f : Int → Int) : Prop := ∃ es clock, w.heap[b]? = some (.map es clock) ∧ Ents es clock ks f

theorem MapI.lt {w : World} {b : Nat} {ks : List Int} {f : Int → Int} (h : MapI w b ks f) : b < w.heap.size := by
  obtain ⟨es, clock, hb, _⟩ := h
  exact (Array.getElem?_eq_some_iff.1 hb).1

theorem MapI.kept {w w' : World} {b : Nat} {ks : List Int} {f : Int → Int} (h : MapI w b ks f) (hb : w'.heap[b]? = w.heap[b]?) : MapI w' b ks f := by
  obtain ⟨es, clock, h1, h2⟩ := h
  exact ⟨es, clock, hb.trans h1, h2⟩

theorem MapI.below {w w' : World} {b B : Nat} {ks : List Int} {f : Int → Int} (h : MapI w b ks f) (hb : Below B w w') (hB : b < B) : MapI w' b ks f := h.kept (hb.block b hB)

theorem MapI.drew {w : World} {b : Nat} {ks : List Int} {f : Int → Int} (h : MapI w b ks f) : MapI w.drew b ks f := h

theorem MapI.made (w : World) (f : Int → Int) : MapI (w.alloc (.map #[] 0)) w.heap.size [] f :=
  ⟨#[], 0, (MapKept.heap_alloc w _).1, ⟨rfl, by simp, by simp, by simp, by simp, by simp⟩⟩

theorem Ents.has {es : Array MapEntry} {clock : Nat} {ks : List Int} {f : Int → Int} (h : Ents es clock ks f) (x : Int) : (∃ e ∈ es.toList, e.key = .int .i64 x) ↔ x ∈ ks := by
  constructor
  · rintro ⟨e, he, hk⟩
    have : Value.int .i64 x ∈ ks.map (Value.int .i64) := by rw [← h.keys, ← hk]; exact List.mem_map.2 ⟨e, he, rfl⟩
    obtain ⟨y, hy, e1⟩ := List.mem_map.1 this
    cases e1
    exact hy
  · intro hx
    have : Value.int .i64 x ∈ es.toList.map (·.key) := by rw [h.keys]; exact List.mem_map.2 ⟨x, hx, rfl⟩
    obtain ⟨e, he, hk⟩ := List.mem_map.1 this
    exact ⟨e, he, hk⟩

theorem Ents.find {es : Array MapEntry} {clock : Nat} {ks : List Int} {f : Int → Int} (h : Ents es clock ks f) (w : World) {x : Int} (hx : Fits x) :
    ((Instr.findKey 2 (.int .i64 x) es.toList).run Try.prog w = .ok none w ∧ x ∉ ks) ∨
    ∃ j e, (Instr.findKey 2 (.int .i64 x) es.toList).run Try.prog w = .ok (some (j, e.val)) w ∧ es.toList[j]? = some e ∧ e.key = .int .i64 x ∧ x ∈ ks ∧ e.val = .int .i64 (f x) := by
  obtain ⟨l, hl⟩ := key2 hx
  rcases law2.find w hl es.toList (fun e he => by
    obtain ⟨y, hy, _⟩ := h.vals e he
    rw [hy]
    exact key2 (h.fits y ((h.has y).1 ⟨e, he, hy⟩)).1) with ⟨h1, h2⟩ | ⟨j, e, h1, h2, h3⟩
  · exact Or.inl ⟨h1, fun hm => by obtain ⟨e, he, hk⟩ := (h.has x).2 hm; exact h2 e he hk⟩
  · have he := List.mem_of_getElem? h2
    obtain ⟨y, hy, hv⟩ := h.vals e he
    rw [h3] at hy
    cases hy
    exact Or.inr ⟨j, e, h1, h2, h3, (h.has x).1 ⟨e, he, h3⟩, hv⟩

theorem zero2 (w : World) : (zeroValue 2).run Try.prog w = .ok (.int .i64 0) w := by kernel_rfl

/-- 'v, ok := m[k]'. -/
theorem MapI.lookOk {w : World} {b : Nat} {ks : List Int} {f : Int → Int} (h : MapI w b ks f) {x : Int} (hx : Fits x) :
    (Instr.lookup 24 (.map (some b)) (.int .i64 x) true).run Try.prog w = .ok (.tuple #[.int .i64 (val ks f x), .bool (decide (x ∈ ks))]) w := by
  obtain ⟨l, hl⟩ := key2 hx
  obtain ⟨es, clock, hb, E⟩ := h
  rcases E.find w hx with ⟨h1, h2⟩ | ⟨j, e, h1, _, _, h2, h3⟩
  · simp [Instr.lookup, run_underlying Try.underlying24, MapKept.run_getObj_map hb, law2.check w _ hl, h1, zero2 w, Result.andThen, val, h2]
  · simp [Instr.lookup, run_underlying Try.underlying24, MapKept.run_getObj_map hb, law2.check w _ hl, h1, Result.andThen, val, h2, h3]

/-- 'len(m)'. -/
theorem MapI.length {w : World} {b : Nat} {ks : List Int} {f : Int → Int} (h : MapI w b ks f) (ty : TypeId) : (Builtin.len_ #[24] ty #[.map (some b)]).run Try.prog w = .ok (.int .i64 ks.length) w := by
  obtain ⟨es, clock, hb, E⟩ := h
  have : es.size = ks.length := by have := congrArg List.length E.keys; simpa using this
  simp [Builtin.len_, run_underlying Try.underlying24, MapKept.run_getObj_map hb, goInt, Result.andThen, this]

/-- The keys behind a store, the function behind it. -/
def putK (ks : List Int) (x : Int) : List Int := if x ∈ ks then ks else ks ++ [x]
def putF (f : Int → Int) (x v : Int) : Int → Int := fun y => if y = x then v else f y

theorem putK_mem {ks : List Int} {x y : Int} : y ∈ putK ks x ↔ y ∈ ks ∨ y = x := by
  unfold putK
  split
  · constructor
    · exact Or.inl
    · rintro (h | rfl) <;> assumption
  · simp

theorem putK_len (ks : List Int) (x : Int) : (putK ks x).length ≤ ks.length + 1 := by
  unfold putK
  split
  · omega
  · simp

theorem fits_put {ks : List Int} {f : Int → Int} {x v : Int} (h : ∀ y ∈ ks, Fits y ∧ Fits (f y)) (hx : Fits x) (hv : Fits v) : ∀ y ∈ putK ks x, Fits y ∧ Fits (putF f x v y) := by
  intro y hy
  unfold putF
  by_cases e : y = x
  · subst e; simp [hx, hv]
  · rw [if_neg e]
    exact h y ((putK_mem.1 hy).resolve_right e)

/-- 'm[k] = v'. -/
theorem MapI.store {w : World} {b : Nat} {ks : List Int} {f : Int → Int} (h : MapI w b ks f) {x v : Int} (hx : Fits x) (hv : Fits v) :
    ∃ w', (Instr.mapUpdate 24 (.map (some b)) (.int .i64 x) (.int .i64 v)).run Try.prog w = .ok () w' ∧ MapI w' b (putK ks x) (putF f x v) ∧ w.grownBy w' (some b) := by
  obtain ⟨l, hl⟩ := key2 hx
  obtain ⟨es, clock, hb, E⟩ := h
  have grown : ∀ o : Obj, w.grownBy (ChangeMaps.setBlock w b o) (some b) := fun o =>
    ⟨rfl, rfl, rfl, by simp [ChangeMaps.setBlock], fun i _ hi => ChangeMaps.heap_setBlock_other hb _ (fun e => hi (by rw [e]))⟩
  rcases E.find w hx with ⟨h1, h2⟩ | ⟨j, e0, h1, h2, h3, h4, h5⟩
  · refine ⟨_, ?_, ?_, grown (.map (es.push ⟨.int .i64 x, .int .i64 v, clock⟩) (clock + 1))⟩
    · simp [Instr.mapUpdate, run_underlying Try.underlying24, MapKept.run_getObj_map hb, law2.check w false hl, h1, MapKept.run_setObj_map _ hb, Result.andThen, ChangeMaps.setBlock]
    · refine ⟨_, _, ChangeMaps.heap_setBlock_same hb _, ⟨?_, ?_, ?_, fits_put E.fits hx hv, ?_, ?_⟩⟩
      · simp [putK, h2, E.keys]
      · intro e he
        simp only [Array.toList_push, List.mem_append, List.mem_singleton] at he
        rcases he with he | rfl
        · obtain ⟨y, hy, hv'⟩ := E.vals e he
          have : y ≠ x := fun e1 => h2 ((E.has x).1 ⟨e, he, by rw [hy, e1]⟩)
          exact ⟨y, hy, by rw [hv', putF, if_neg this]⟩
        · exact ⟨x, rfl, by simp [putF]⟩
      · rw [putK, if_neg h2, List.nodup_append]
        exact ⟨E.nodup, by simp, fun a ha c hc => by simp only [List.mem_singleton] at hc; subst hc; exact fun e => h2 (e ▸ ha)⟩
      · rw [Array.toList_push, List.map_append, List.nodup_append]
        refine ⟨E.born, by simp, fun a ha c hc => ?_⟩
        simp only [List.map_cons, List.map_nil, List.mem_singleton] at hc
        subst hc
        obtain ⟨e, he, rfl⟩ := List.mem_map.1 ha
        have := E.clock e he
        omega
      · intro e he
        simp only [Array.toList_push, List.mem_append, List.mem_singleton] at he
        rcases he with he | rfl
        · have := E.clock e he; omega
        · simp
  · have hj : es[j]? = some e0 := by simpa using h2
    have hjl : j < es.toList.length := (List.getElem?_eq_some_iff.1 h2).1
    have hlist : (es.modify j (fun e' => { e' with key := .int .i64 x, val := .int .i64 v })).toList = es.toList.set j { e0 with key := .int .i64 x, val := .int .i64 v } := by rw [Array.toList_modify, ChangeMaps.modify_eq_set _ _ _ _ h2]
    have hk : (es.toList.set j { e0 with key := .int .i64 x, val := .int .i64 v }).map (·.key) = es.toList.map (·.key) := by
      rw [List.map_set]
      apply List.ext_getElem?
      intro i
      rw [List.getElem?_set]
      by_cases hij : j = i
      · subst hij
        rw [if_pos rfl, if_pos (by simpa using hjl), List.getElem?_map, h2]
        simp [h3]
      · rw [if_neg hij]
    have hbn : (es.toList.set j { e0 with key := .int .i64 x, val := .int .i64 v }).map (·.born) = es.toList.map (·.born) := by
      rw [List.map_set]
      apply List.ext_getElem?
      intro i
      rw [List.getElem?_set]
      by_cases hij : j = i
      · subst hij
        rw [if_pos rfl, if_pos (by simpa using hjl), List.getElem?_map, h2]
        simp
      · rw [if_neg hij]
    have hother : ∀ i e1, es.toList[i]? = some e1 → i ≠ j → e1.key ≠ .int .i64 x := by
      intro i e1 hi hne hk1
      have hnd : (es.toList.map (·.key)).Nodup := by
        rw [E.keys, List.nodup_iff_pairwise_ne, List.pairwise_map]
        exact pw_weaker (fun a b h1 h2 => h1 (by cases h2; rfl)) E.nodup
      have a1 : (es.toList.map (·.key))[i]? = some (.int .i64 x) := by rw [List.getElem?_map, hi]; simp [hk1]
      have a2 : (es.toList.map (·.key))[j]? = some (.int .i64 x) := by rw [List.getElem?_map, h2]; simp [h3]
      exact hne ((List.getElem?_inj (by have := (List.getElem?_eq_some_iff.1 hi).1; simpa using this) hnd).1 (a1.trans a2.symm))
    refine ⟨_, ?_, ?_, grown (.map (es.modify j (fun e' => { e' with key := .int .i64 x, val := .int .i64 v })) clock)⟩
    · simp [Instr.mapUpdate, run_underlying Try.underlying24, MapKept.run_getObj_map hb, law2.check w false hl, h1, hj, h3, law2.stays w hl, MapKept.run_setObj_map _ hb, Result.andThen, ChangeMaps.setBlock]
    · refine ⟨_, _, ChangeMaps.heap_setBlock_same hb _, ⟨?_, ?_, ?_, fits_put E.fits hx hv, ?_, ?_⟩⟩
      · rw [hlist, hk, E.keys, putK, if_pos h4]
      · intro e he
        rw [hlist] at he
        obtain ⟨i, hi, rfl⟩ := List.getElem_of_mem he
        rw [List.getElem_set]
        split
        · exact ⟨x, rfl, by simp [putF]⟩
        · rename_i hne
          have hi' : i < es.toList.length := by simpa using hi
          obtain ⟨y, hy, hv'⟩ := E.vals _ (List.getElem_mem hi')
          have hyx : y ≠ x := fun e1 => hother i _ (List.getElem?_eq_getElem hi') (fun e => hne e.symm) (by rw [hy, e1])
          exact ⟨y, hy, by rw [hv', putF, if_neg hyx]⟩
      · rw [putK, if_pos h4]; exact E.nodup
      · rw [hlist, hbn]; exact E.born
      · intro e he
        rw [hlist] at he
        have : e.born ∈ es.toList.map (·.born) := by rw [← hbn]; exact List.mem_map.2 ⟨e, he, rfl⟩
        obtain ⟨e', he', hbe⟩ := List.mem_map.1 this
        rw [← hbe]
        exact E.clock e' he'

/-! ### the map's value: nil, or a block -/

def MapV (w : World) (mv : Value) (ks : List Int) (f : Int → Int) : Prop := (mv = .map none ∧ ks = []) ∨ ∃ b, mv = .map (some b) ∧ MapI w b ks f

theorem MapV.below {w w' : World} {mv : Value} {ks : List Int} {f : Int → Int} (h : MapV w mv ks f) (hb : Below w.heap.size w w') : MapV w' mv ks f := by
  rcases h with h | ⟨b, rfl, h⟩
  · exact Or.inl h
  · exact Or.inr ⟨b, rfl, h.below hb h.lt⟩

theorem MapV.nodup {w : World} {mv : Value} {ks : List Int} {f : Int → Int} (h : MapV w mv ks f) : ks.Nodup := by
  rcases h with ⟨_, rfl⟩ | ⟨b, rfl, es, clock, _, E⟩
  · exact List.nodup_nil
  · exact E.nodup

theorem MapV.fits {w : World} {mv : Value} {ks : List Int} {f : Int → Int} (h : MapV w mv ks f) : ∀ x ∈ ks, Fits x ∧ Fits (f x) := by
  rcases h with ⟨_, rfl⟩ | ⟨b, rfl, es, clock, _, E⟩
  · simp
  · exact E.fits

theorem MapV.length {w : World} {mv : Value} {ks : List Int} {f : Int → Int} (h : MapV w mv ks f) (ty : TypeId) : (Builtin.len_ #[24] ty #[mv]).run Try.prog w = .ok (.int .i64 ks.length) w := by
  rcases h with ⟨rfl, rfl⟩ | ⟨b, rfl, h⟩
  · exact Maps.len_nil Try.underlying24 ty
  · exact h.length ty

theorem MapV.lookOk {w : World} {mv : Value} {ks : List Int} {f : Int → Int} (h : MapV w mv ks f) {x : Int} (hx : Fits x) :
    (Instr.lookup 24 mv (.int .i64 x) true).run Try.prog w = .ok (.tuple #[.int .i64 (val ks f x), .bool (decide (x ∈ ks))]) w := by
  rcases h with ⟨rfl, rfl⟩ | ⟨b, rfl, h⟩
  · obtain ⟨l, hl⟩ := key2 hx
    rw [Maps.look_nil true law2 Try.underlying24 (zero2 w) hl]
    simp [val]
  · exact h.lookOk hx

/-! ### an iterator over it -/

/-- Block r is an iterator over the map value mv; the keys L are still to come. -/
def Iter (w : World) (mv : Value) (r : Nat) (ks : List Int) (f : Int → Int) (L : List Int) : Prop :=
  (mv = .map none ∧ ks = [] ∧ L = [] ∧ w.heap[r]? = some (.mapIter none 0 #[] 0)) ∨
  ∃ b es clock since seen c0, mv = .map (some b) ∧ w.heap[b]? = some (.map es clock) ∧ Ents es clock ks f ∧ w.heap[r]? = some (.mapIter (some b) since seen c0) ∧ (∀ x ∈ es.toList, x.born < since) ∧ since ≤ c0 ∧ since ≤ clock ∧
    (leftOf es seen).toList.map (·.key) = L.map (Value.int .i64)

theorem Iter.mapV {w : World} {mv : Value} {r : Nat} {ks : List Int} {f : Int → Int} {L : List Int} (h : Iter w mv r ks f L) : MapV w mv ks f := by
  rcases h with ⟨h1, h2, _⟩ | ⟨b, es, clock, since, seen, c0, h1, h2, h3, _⟩
  · exact Or.inl ⟨h1, h2⟩
  · exact Or.inr ⟨b, h1, es, clock, h2, h3⟩

theorem Iter.lt {w : World} {mv : Value} {r : Nat} {ks : List Int} {f : Int → Int} {L : List Int} (h : Iter w mv r ks f L) : r < w.heap.size := by
  rcases h with ⟨_, _, _, h⟩ | ⟨b, es, clock, since, seen, c0, h1, h2, h3, h, _⟩
  · exact (Array.getElem?_eq_some_iff.1 h).1
  · exact (Array.getElem?_eq_some_iff.1 h).1

theorem Iter.below {w w' : World} {mv : Value} {r B : Nat} {ks : List Int} {f : Int → Int} {L : List Int} (h : Iter w mv r ks f L) (hb : Below B w w') (hr : r < B) (hm : ∀ b, mv = .map (some b) → b < B) : Iter w' mv r ks f L := by
  rcases h with ⟨h1, h2, h3, h4⟩ | ⟨b, es, clock, since, seen, c0, h1, h2, h3, h4, h5⟩
  · exact Or.inl ⟨h1, h2, h3, (hb.block r hr).trans h4⟩
  · exact Or.inr ⟨b, es, clock, since, seen, c0, h1, (hb.block b (hm b h1)).trans h2, h3, (hb.block r hr).trans h4, h5⟩

/-- 'range m'. -/
theorem MapV.range {w : World} {mv : Value} {ks : List Int} {f : Int → Int} (h : MapV w mv ks f) :
    ∃ w', (Instr.range 24 mv).run Try.prog w = .ok (.pointer (some ⟨w.heap.size, 0, none⟩)) w' ∧ Iter w' mv w.heap.size ks f ks ∧ Below w.heap.size w w' ∧ w'.heap.size = w.heap.size + 1 := by
  rcases h with ⟨rfl, rfl⟩ | ⟨b, rfl, h⟩
  · exact ⟨_, run_range_nilMap w 24 2 2 Try.underlying24, Or.inl ⟨rfl, rfl, rfl, (MapKept.heap_alloc w _).1⟩, (Below.refl _ _).alloc (Nat.le_refl _) _, by simp⟩
  · have hlt := h.lt
    obtain ⟨es, clock, hb, E⟩ := h
    refine ⟨_, run_range_map w 24 2 2 b es clock Try.underlying24 hb, Or.inr ⟨b, es, clock, clock, #[], clock, rfl, ((MapKept.heap_alloc w _).2 b hlt).trans hb, E, (MapKept.heap_alloc w _).1, E.clock, Nat.le_refl _, Nat.le_refl _, ?_⟩, (Below.refl _ _).alloc (Nat.le_refl _) _, by simp⟩
    have : leftOf es #[] = es := by simp [leftOf]
    rw [this, E.keys]

/-- The step. -/
theorem Iter.next {w : World} {mv : Value} {r : Nat} {ks : List Int} {f : Int → Int} {L : List Int} (h : Iter w mv r ks f L) (ty : TypeId) :
    (L = [] ∧ (Instr.next (.pointer (some ⟨r, 0, none⟩)) false ty).run Try.prog w = .ok (.tuple #[.bool false]) w) ∨
    ∃ x w', x ∈ L ∧ x ∈ ks ∧ (Instr.next (.pointer (some ⟨r, 0, none⟩)) false ty).run Try.prog w = .ok (.tuple #[.bool true, .int .i64 x, .int .i64 (f x)]) w' ∧ Iter w' mv r ks f (L.filter (fun y => decide (y ≠ x))) ∧
      w.grownBy w' (some r) ∧ w'.heap.size = w.heap.size ∧ (Instr.entry (.pointer (some ⟨r, 0, none⟩))).run Try.prog w' = .ok (.tuple #[.int .i64 x, .int .i64 (f x)]) w' := by
  rcases h with ⟨rfl, rfl, rfl, hr⟩ | ⟨b, es, clock, since, seen, c0, rfl, hb, E, hr, hold, hsc, hsk, hL⟩
  · left
    refine ⟨rfl, ?_⟩
    simp only [Instr.next, getObj, Sem.run_bind, Sem.run, hr, Result.andThen]
    rfl
  · have hne : r ≠ b := fun e => by rw [e, hb] at hr; cases hr
    rcases run_next_at (P := Try.prog) w ty r b since c0 seen es clock hr hb hold hsc with ⟨h0, hrun⟩ | ⟨e, he, w1, hal, hrun⟩
    · left
      have : L.length = 0 := by have := congrArg List.length hL; simpa [h0] using this.symm
      exact ⟨List.eq_nil_of_length_eq_zero this, hrun⟩
    · right
      obtain ⟨hem, hes⟩ := mem_left he
      obtain ⟨x, hx, hv⟩ := E.vals e hem
      have hr1 : w1.heap[r]? = some (.mapIter (some b) since seen c0) := by rcases hal with rfl | rfl <;> exact hr
      have hb1 : w1.heap[b]? = some (.map es clock) := by rcases hal with rfl | rfl <;> exact hb
      have hset : (ChangeMaps.setBlock w1 r (.mapIter (some b) since (seen.push e.born) clock)).heap[r]? = some (.mapIter (some b) since (seen.push e.born) clock) := (MapKept.heap_set hr1).1
      have hoth : ∀ i, i ≠ r → (ChangeMaps.setBlock w1 r (.mapIter (some b) since (seen.push e.born) clock)).heap[i]? = w1.heap[i]? := fun i hi => (MapKept.heap_set hr1).2 i hi
      have hb' := (hoth b (fun e1 => hne e1.symm)).trans hb1
      have hent := run_entry_at (P := Try.prog) _ r b since seen es clock e hset hb' hem E.born
      rw [hx, hv] at hrun hent
      have hxL : x ∈ L := by
        have : Value.int .i64 x ∈ L.map (Value.int .i64) := by rw [← hL, ← hx]; exact List.mem_map.2 ⟨e, he, rfl⟩
        obtain ⟨y, hy, e1⟩ := List.mem_map.1 this
        cases e1
        exact hy
      refine ⟨x, _, hxL, (E.has x).1 ⟨e, hem, hx⟩, hrun, Or.inr ⟨b, es, clock, since, seen.push e.born, clock, rfl, hb', E, hset, hold, hsk, hsk, ?_⟩, ?_, ?_, hent⟩
      · classical
        have hkb : ∀ y ∈ es.toList, (y.born = e.born ↔ y.key = .int .i64 x) := by
          intro y hy
          constructor
          · intro hbe
            obtain rfl := born_inj E.born hy hem hbe
            exact hx
          · intro hke
            have hnd : es.toList.Pairwise (fun a c => a.key ≠ c.key) := by
              rw [← List.pairwise_map (f := fun z : MapEntry => z.key) (R := (· ≠ ·)), E.keys, List.pairwise_map]
              exact pw_weaker (fun a b h1 h2 => h1 (by cases h2; rfl)) E.nodup
            rw [entry_eq_of_key hnd hy hem (hke.trans hx.symm)]
        have e1 : (leftOf es (seen.push e.born)).toList = (leftOf es seen).toList.filter (fun y => decide (y.key ≠ .int .i64 x)) := by
          unfold leftOf
          rw [Array.toList_filter, Array.toList_filter, List.filter_filter]
          apply List.filter_congr
          intro y hy
          rw [contains_push]
          have := hkb y hy
          by_cases hc : y.born = e.born
          · have h2 := this.1 hc
            simp [hc, h2]
          · have h2 : y.key ≠ .int .i64 x := fun h => hc (this.2 h)
            have h3 : (y.born == e.born) = false := by simpa using hc
            rw [h3, decide_eq_true h2]
            simp
        rw [e1]
        have e2 : ((leftOf es seen).toList.filter (fun y => decide (y.key ≠ .int .i64 x))).map (·.key) = ((leftOf es seen).toList.map (·.key)).filter (fun k => decide (k ≠ .int .i64 x)) := by
          rw [List.filter_map]; rfl
        rw [e2, hL, List.filter_map]
        congr 1
        apply List.filter_congr
        intro y _
        simp
      · rcases hal with rfl | rfl <;> exact ⟨rfl, rfl, rfl, by simp [ChangeMaps.setBlock], fun i _ hi => hoth i (fun e1 => hi (by rw [e1]))⟩
      · rcases hal with rfl | rfl <;> simp [ChangeMaps.setBlock]

end Go.Proofs.Qxb6601906a
