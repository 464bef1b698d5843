/-
  Views of memory for the walks of this seat: a slice of strings, a map keyed by strings. Strings are lists of bytes.
-/
import Derived.Test.Qxb6601503aRows
import Derived.Test.Qxb6601503aPlain
import Derived.WalkKit
import Derived.WalkSpells
import Derived.WalkLawsBesides
import Derived.Maps.OwnSet
import Derived.Deep.LoopGhost
namespace Go.Proofs.Qxb6601503a
open Go.RowKit Go.Maps
set_option linter.unusedVariables false

def bs (s : Str) : ByteArray := ⟨s.toArray⟩
theorem bs_toList (s : Str) : (bs s).toList = s := ByteArray.toList_mk s
theorem bs_size (s : Str) : (bs s).size = s.length := by simp [bs, ByteArray.size]
theorem bs_inj {s t : Str} (h : bs s = bs t) : s = t := by rw [← bs_toList s, h, bs_toList]
theorem bs_data (b : ByteArray) : bs b.data.toList = b := by cases b; simp [bs]

theorem ret_bool {a b : Bool} (h : a = b) : Ending.returned (.bool a) = .returned (.bool b) := by rw [h]
theorem ret_int {k : IntKind} {a b : Int} (h : a = b) : Ending.returned (.int k a) = .returned (.int k b) := by rw [h]

theorem cell_lt {w : World} {b off : Nat} {v : Value} (h : w.cell? ⟨b, off, none⟩ = some v) : b < w.heap.size := by
  unfold World.cell? at h
  cases hh : w.heap[b]? with
  | none => simp [hh] at h
  | some o => exact (Array.getElem?_eq_some_iff.1 hh).1

/-! ### a slice of strings -/

/-- The slice value v reads as the strings ss. -/
def SV (w : World) (v : Value) (ss : List Str) : Prop :=
  ∃ a cap, v = .slice a ss.length cap ∧ (a = none → cap = 0) ∧ ss.length ≤ cap ∧ cap ≤ maxLen ∧ (∀ s ∈ ss, s.length ≤ maxLen) ∧
    ∀ j (h : j < ss.length), ∃ b off, a = some ⟨b, off, none⟩ ∧ w.cell? ⟨b, off + j, none⟩ = some (.string (bs ss[j]))

/-- At one index, the value's form given. -/
theorem SV.get {w : World} {a : Option Addr} {n cap : Nat} {ss : List Str} (h : SV w (.slice a n cap) ss) {k : Nat} (hk : k < ss.length) :
    ∃ b off s, a = some ⟨b, off, none⟩ ∧ b < w.heap.size ∧ Hid (s = ss[k]) ∧ s.length ≤ maxLen ∧ w.cell? ⟨b, off + k, none⟩ = some (.string (bs s)) := by
  obtain ⟨a', cap', hv, _, _, _, hs, hc⟩ := h
  simp only [Value.slice.injEq] at hv
  obtain ⟨rfl, _, _⟩ := hv
  obtain ⟨b, off, rfl, hck⟩ := hc k hk
  exact ⟨b, off, _, rfl, cell_lt hck, rfl, hs _ (List.getElem_mem hk), hck⟩

theorem SV.len {w : World} {v : Value} {ss : List Str} (h : SV w v ss) : ∃ a cap, v = .slice a ss.length cap := by
  obtain ⟨a, cap, rfl, _⟩ := h
  exact ⟨a, cap, rfl⟩

theorem SV.le {w : World} {v : Value} {ss : List Str} (h : SV w v ss) : ss.length ≤ 9223372036854775807 := by
  obtain ⟨a, cap, rfl, _, h1, h2, _⟩ := h
  exact Nat.le_trans h1 h2

theorem SV.size {w : World} {v : Value} {ss : List Str} (h : SV w v ss) : ∀ s ∈ ss, s.length ≤ maxLen := by
  obtain ⟨a, cap, rfl, _, _, _, h3, _⟩ := h
  exact h3

theorem SV.nil (w : World) : SV w (.slice none 0 0) [] :=
  ⟨none, 0, rfl, fun _ => rfl, Nat.le_refl _, Nat.zero_le _, by simp, by simp⟩

/-- It reads as it did where the cells are as they were. -/
theorem SV.kept {w w' : World} {v : Value} {ss : List Str} (h : SV w v ss) (hk : ∀ b off u, w.cell? ⟨b, off, none⟩ = some u → w'.cell? ⟨b, off, none⟩ = some u) : SV w' v ss := by
  obtain ⟨a, cap, hv, h0, h1, h2, h3, h4⟩ := h
  refine ⟨a, cap, hv, h0, h1, h2, h3, fun j hj => ?_⟩
  obtain ⟨b, off, ha, hc⟩ := h4 j hj
  exact ⟨b, off, ha, hk _ _ _ hc⟩

theorem SV.below {w w' : World} {v : Value} {ss : List Str} (h : SV w v ss) (hb : Below w.heap.size w w') : SV w' v ss :=
  h.kept fun b off u hc => (hb.cell (p := ⟨b, off, none⟩) (cell_lt hc)).trans hc

/-- A map is written, blocks are made: no slice turns. -/
theorem SV.mapGrown {w w' : World} {v : Value} {ss : List Str} {m : Nat} (h : SV w v ss) (hm : ∀ off, w.cell? ⟨m, off, none⟩ = none) (hg : w.grownBy w' (some m)) : SV w' v ss :=
  h.kept fun b off u hc => by
    have hbm : b ≠ m := fun e => by rw [e, hm off] at hc; cases hc
    exact (World.cell?_of_block (w := w) (a := ⟨b, off, none⟩) (hg.block b (cell_lt hc) (by simpa using hbm))).trans hc

/-! ### a map keyed by strings -/

/-- Block b is a map of n entries that reads as f. -/
def MapAt (w : World) (b : Nat) (f : Str → Option Value) (n : Nat) : Prop :=
  ∃ es clock, w.heap[b]? = some (.map es clock) ∧ es.size = n ∧ es.toList.Pairwise (fun x y => x.key ≠ y.key) ∧
    (∀ e ∈ es.toList, ∃ s : Str, e.key = .string (bs s) ∧ s.length ≤ maxLen) ∧ ∀ s v, f s = some v ↔ ∃ e ∈ es.toList, e.key = .string (bs s) ∧ e.val = v

theorem law9 : Keyed Try.prog 9 := string_keyed Try.underlying9

theorem key9 {s : Str} (hs : s.length ≤ maxLen) : ∃ l, keyOf Try.prog 9 (.string (bs s)) = some l :=
  ⟨_, WideMaps.keyOf_string_mk Try.underlying9 (by rw [bs_size]; exact hs)⟩

theorem MapAt.lt {w : World} {b n : Nat} {f : Str → Option Value} (h : MapAt w b f n) : b < w.heap.size := by
  obtain ⟨es, clock, hb, _⟩ := h
  exact (Array.getElem?_eq_some_iff.1 hb).1

theorem MapAt.noCell {w : World} {b n : Nat} {f : Str → Option Value} (h : MapAt w b f n) (off : Nat) : w.cell? ⟨b, off, none⟩ = none := by
  obtain ⟨es, clock, hb, _⟩ := h
  simp [World.cell?, hb]

theorem MapAt.keptBlock {w w' : World} {b n : Nat} {f : Str → Option Value} (h : MapAt w b f n) (hb : w'.heap[b]? = w.heap[b]?) : MapAt w' b f n := by
  obtain ⟨es, clock, h1, h2⟩ := h
  exact ⟨es, clock, hb.trans h1, h2⟩

theorem MapAt.kept {w w' : World} {b n : Nat} {f : Str → Option Value} {row : Option Nat} (h : MapAt w b f n) (hg : w.grownBy w' row) (hne : some b ≠ row) : MapAt w' b f n :=
  h.keptBlock (hg.block b h.lt hne)

theorem MapAt.below {w w' : World} {b n B : Nat} {f : Str → Option Value} (h : MapAt w b f n) (hb : Below B w w') (hB : b < B) : MapAt w' b f n :=
  h.keptBlock (hb.block b hB)

theorem MapAt.alloc {w : World} {b n : Nat} {f : Str → Option Value} (h : MapAt w b f n) (o : Obj) : MapAt (w.alloc o) b f n :=
  h.kept (World.grownBy_alloc w o none) (by simp)

theorem MapAt.ext {w : World} {b n : Nat} {f g : Str → Option Value} (h : MapAt w b f n) (e : ∀ s, f s = g s) : MapAt w b g n := by
  obtain rfl : f = g := funext e
  exact h

theorem MapAt.made (w : World) : MapAt (w.alloc (.map #[] 0)) w.heap.size (fun _ => none) 0 :=
  ⟨#[], 0, (MapKept.heap_alloc w _).1, rfl, by simp, by simp, by simp⟩

/-- How many keys: the list of them. -/
theorem MapAt.keys {w : World} {b n : Nat} {f : Str → Option Value} (h : MapAt w b f n) : ∃ ks : List Str, ks.Nodup ∧ ks.length = n ∧ (∀ s, s ∈ ks ↔ (f s).isSome = true) ∧ ∀ s ∈ ks, s.length ≤ maxLen := by
  obtain ⟨es, clock, _, rfl, hp, hk, hf⟩ := h
  have gen : ∀ l : List MapEntry, l.Pairwise (fun x y => x.key ≠ y.key) → (∀ e ∈ l, ∃ s : Str, e.key = .string (bs s) ∧ s.length ≤ maxLen) →
      ∃ ks : List Str, ks.Nodup ∧ ks.length = l.length ∧ (∀ s, s ∈ ks ↔ ∃ e ∈ l, e.key = .string (bs s)) ∧ ∀ s ∈ ks, s.length ≤ maxLen := by
    intro l
    induction l with
    | nil => intro _ _; exact ⟨[], by simp, rfl, by simp, by simp⟩
    | cons e r ih =>
      intro hp hk
      obtain ⟨h1, h2⟩ := List.pairwise_cons.1 hp
      obtain ⟨ks, k1, k2, k3, k4⟩ := ih h2 (fun x hx => hk x (by simp [hx]))
      obtain ⟨s, hs, hsl⟩ := hk e (by simp)
      refine ⟨s :: ks, List.nodup_cons.2 ⟨fun hm => ?_, k1⟩, by simp [k2], fun t => ?_, fun t ht => ?_⟩
      · obtain ⟨e', he', hk'⟩ := (k3 s).1 hm
        exact h1 e' he' (hs.trans hk'.symm)
      · simp only [List.mem_cons]
        constructor
        · rintro (rfl | ht)
          · exact ⟨e, Or.inl rfl, hs⟩
          · obtain ⟨e', he', hk'⟩ := (k3 t).1 ht
            exact ⟨e', Or.inr he', hk'⟩
        · rintro ⟨e', rfl | he', hk'⟩
          · left
            rw [hs] at hk'
            exact (bs_inj (by simpa using hk')).symm
          · exact Or.inr ((k3 t).2 ⟨e', he', hk'⟩)
      · rcases List.mem_cons.1 ht with rfl | ht
        · exact hsl
        · exact k4 t ht
  obtain ⟨ks, k1, k2, k3, k4⟩ := gen es.toList hp hk
  refine ⟨ks, k1, by simpa using k2, fun s => (k3 s).trans ?_, k4⟩
  constructor
  · rintro ⟨e, he, hke⟩
    rw [(hf s e.val).2 ⟨e, he, hke, rfl⟩]
    rfl
  · intro hs
    obtain ⟨v, hv⟩ := Option.isSome_iff_exists.1 hs
    obtain ⟨e, he, hke, _⟩ := (hf s v).1 hv
    exact ⟨e, he, hke⟩

theorem MapAt.find {w : World} {b n : Nat} {f : Str → Option Value} (h : MapAt w b f n) {s : Str} (hs : s.length ≤ maxLen) :
    ∃ es clock, w.heap[b]? = some (.map es clock) ∧
      (((Instr.findKey 9 (.string (bs s)) es.toList).run Try.prog w = .ok none w ∧ f s = none ∧ ∀ e ∈ es.toList, e.key ≠ .string (bs s)) ∨
       ∃ j e, (Instr.findKey 9 (.string (bs s)) es.toList).run Try.prog w = .ok (some (j, e.val)) w ∧ es.toList[j]? = some e ∧ e.key = .string (bs s) ∧ f s = some e.val) := by
  obtain ⟨es, clock, hb, _, hp, hk, hf⟩ := h
  refine ⟨es, clock, hb, ?_⟩
  obtain ⟨l, hl⟩ := key9 hs
  rcases law9.find w hl es.toList (fun e he => by obtain ⟨t, ht, htl⟩ := hk e he; rw [ht]; exact key9 htl) with ⟨h1, h2⟩ | ⟨j, e, h1, h2, h3⟩
  · refine Or.inl ⟨h1, ?_, h2⟩
    cases hv : f s with
    | none => rfl
    | some v =>
      obtain ⟨e, he, hke, _⟩ := (hf s v).1 hv
      exact absurd hke (h2 e he)
  · exact Or.inr ⟨j, e, h1, h2, h3, (hf s e.val).2 ⟨e, List.mem_of_getElem? h2, h3, rfl⟩⟩

/-- 'm[k]'. -/
theorem MapAt.look {w : World} {b n : Nat} {f : Str → Option Value} (h : MapAt w b f n) {t e : TypeId} (ht : Try.prog.underlying t = some (.map 9 e)) {z : Value} (hz : (zeroValue e).run Try.prog w = .ok z w) {s : Str} (hs : s.length ≤ maxLen) :
    (Instr.lookup t (.map (some b)) (.string (bs s)) false).run Try.prog w = .ok ((f s).getD z) w := by
  obtain ⟨l, hl⟩ := key9 hs
  obtain ⟨es, clock, hb, ⟨h1, h2, _⟩ | ⟨j, e, h1, _, _, h2⟩⟩ := h.find hs
  · simp [Instr.lookup, run_underlying ht, MapKept.run_getObj_map hb, law9.check w _ hl, h1, hz, Result.andThen, h2]
  · simp [Instr.lookup, run_underlying ht, MapKept.run_getObj_map hb, law9.check w _ hl, h1, Result.andThen, h2]

/-- 'v, ok := m[k]'. -/
theorem MapAt.lookOk {w : World} {b n : Nat} {f : Str → Option Value} (h : MapAt w b f n) {t e : TypeId} (ht : Try.prog.underlying t = some (.map 9 e)) {z : Value} (hz : (zeroValue e).run Try.prog w = .ok z w) {s : Str} (hs : s.length ≤ maxLen) :
    (Instr.lookup t (.map (some b)) (.string (bs s)) true).run Try.prog w = .ok (.tuple #[(f s).getD z, .bool (f s).isSome]) w := by
  obtain ⟨l, hl⟩ := key9 hs
  obtain ⟨es, clock, hb, ⟨h1, h2, _⟩ | ⟨j, e, h1, _, _, h2⟩⟩ := h.find hs
  · simp [Instr.lookup, run_underlying ht, MapKept.run_getObj_map hb, law9.check w _ hl, h1, hz, Result.andThen, h2]
  · simp [Instr.lookup, run_underlying ht, MapKept.run_getObj_map hb, law9.check w _ hl, h1, Result.andThen, h2]

/-- 'len(m)'. -/
theorem MapAt.length {w : World} {b n : Nat} {f : Str → Option Value} (h : MapAt w b f n) {t e : TypeId} (ht : Try.prog.underlying t = some (.map 9 e)) (ty : TypeId) :
    (Builtin.len_ #[t] ty #[.map (some b)]).run Try.prog w = .ok (.int .i64 n) w := by
  obtain ⟨es, clock, hb, rfl, _⟩ := h
  simp [Builtin.len_, run_underlying ht, MapKept.run_getObj_map hb, goInt, Result.andThen]

/-- 'm[k] = v'. -/
theorem MapAt.store {w : World} {b n : Nat} {f : Str → Option Value} (h : MapAt w b f n) {t e : TypeId} (ht : Try.prog.underlying t = some (.map 9 e)) {s : Str} (hs : s.length ≤ maxLen) (v : Value) :
    ∃ w', (Instr.mapUpdate t (.map (some b)) (.string (bs s)) v).run Try.prog w = .ok () w' ∧ MapAt w' b (fun x => if x = s then some v else f x) (if (f s).isSome then n else n + 1) ∧ w.grownBy w' (some b) := by
  obtain ⟨l, hl⟩ := key9 hs
  have hfnd := h.find hs
  obtain ⟨es, clock, hb, hn, hp, hk, hf⟩ := h
  obtain ⟨es', clock', hb', hcase⟩ := hfnd
  rw [hb] at hb'
  obtain ⟨rfl, rfl⟩ : es = es' ∧ clock = clock' := by simpa using hb'
  have grown : ∀ o : Obj, w.grownBy (ChangeMaps.setBlock w b o) (some b) := fun o =>
    ⟨rfl, rfl, rfl, by simp [ChangeMaps.setBlock], fun i _ hi => ChangeMaps.heap_setBlock_other hb _ (fun e => hi (by rw [e]))⟩
  rcases hcase with ⟨h1, h2, h3⟩ | ⟨j, e0, h1, h2, h3, h4⟩
  · refine ⟨_, ?_, ?_, grown (.map (es.push ⟨.string (bs s), v, clock⟩) (clock + 1))⟩
    · simp [Instr.mapUpdate, run_underlying ht, MapKept.run_getObj_map hb, law9.check w false hl, h1, MapKept.run_setObj_map _ hb, Result.andThen, ChangeMaps.setBlock]
    · refine ⟨_, _, ChangeMaps.heap_setBlock_same hb _, by simp [hn, h2], ?_, ?_, ?_⟩
      · rw [Array.toList_push, List.pairwise_append]
        exact ⟨hp, by simp, fun a ha c hc => by simp only [List.mem_singleton] at hc; subst hc; exact h3 a ha⟩
      · intro x hx
        simp only [Array.toList_push, List.mem_append, List.mem_singleton] at hx
        rcases hx with hx | rfl
        · exact hk x hx
        · exact ⟨s, rfl, hs⟩
      · intro x u
        simp only [Array.toList_push, List.mem_append, List.mem_singleton]
        by_cases hx : x = s
        · subst hx
          simp only [if_true, Option.some.injEq]
          constructor
          · rintro rfl
            exact ⟨_, Or.inr rfl, rfl, rfl⟩
          · rintro ⟨e1, he1 | rfl, hke, hve⟩
            · exact absurd hke (h3 e1 he1)
            · exact hve
        · simp only [hx, if_false, hf x u]
          constructor
          · rintro ⟨e1, he1, hke, hve⟩
            exact ⟨e1, Or.inl he1, hke, hve⟩
          · rintro ⟨e1, he1 | rfl, hke, hve⟩
            · exact ⟨e1, he1, hke, hve⟩
            · exact absurd (bs_inj (by simpa using hke)).symm hx
  · have hj : es[j]? = some e0 := by simpa using h2
    have hjl : j < es.toList.length := (List.getElem?_eq_some_iff.1 h2).1
    have hlist : (es.modify j (fun e' => { e' with key := .string (bs s), val := v })).toList = es.toList.set j { e0 with key := .string (bs s), val := v } := by rw [Array.toList_modify, ChangeMaps.modify_eq_set _ _ _ _ h2]
    have other : ∀ i e1, es.toList[i]? = some e1 → i ≠ j → e1.key ≠ .string (bs s) := by
      intro i e1 hi hne hk1
      have hil := (List.getElem?_eq_some_iff.1 hi).1
      have e1eq := (List.getElem?_eq_some_iff.1 hi).2
      have e0eq := (List.getElem?_eq_some_iff.1 h2).2
      rcases Nat.lt_or_gt_of_ne hne with hlt | hgt
      · exact (List.pairwise_iff_getElem.1 hp) i j hil hjl hlt (by rw [e1eq, e0eq, hk1, h3])
      · exact (List.pairwise_iff_getElem.1 hp) j i hjl hil hgt (by rw [e1eq, e0eq, hk1, h3])
    have who : ∀ e1, e1 ∈ es.toList.set j { e0 with key := .string (bs s), val := v } ↔ e1 = { e0 with key := .string (bs s), val := v } ∨ (e1 ∈ es.toList ∧ e1.key ≠ .string (bs s)) := by
      intro e1
      constructor
      · intro hx
        obtain ⟨i, hi, ex⟩ := List.getElem_of_mem hx
        rw [List.getElem_set] at ex
        split at ex
        · exact Or.inl ex.symm
        · rename_i hne
          have hi' : i < es.toList.length := by simpa using hi
          exact Or.inr ⟨ex ▸ List.getElem_mem hi', other i e1 (by rw [List.getElem?_eq_getElem hi', ex]) (fun e => hne e.symm)⟩
      · rintro (rfl | ⟨hx, hne⟩)
        · exact List.mem_iff_getElem.2 ⟨j, by simpa using hjl, by simp⟩
        · obtain ⟨i, hi, ex⟩ := List.getElem_of_mem hx
          have hij : j ≠ i := fun e => by
            subst e
            have e0eq := (List.getElem?_eq_some_iff.1 h2).2
            rw [ex] at e0eq
            subst e0eq
            exact hne h3
          exact List.mem_iff_getElem.2 ⟨i, by simpa using hi, by rw [List.getElem_set, if_neg hij]; exact ex⟩
    refine ⟨_, ?_, ?_, grown (.map (es.modify j (fun e' => { e' with key := .string (bs s), val := v })) clock)⟩
    · simp [Instr.mapUpdate, run_underlying ht, MapKept.run_getObj_map hb, law9.check w false hl, h1, hj, h3, law9.stays w hl, MapKept.run_setObj_map _ hb, Result.andThen, ChangeMaps.setBlock]
    · refine ⟨_, _, ChangeMaps.heap_setBlock_same hb _, by simp [hn, h4], ?_, ?_, ?_⟩
      · rw [hlist, List.pairwise_iff_getElem]
        intro i k hi hk' hik
        have hi' : i < es.toList.length := by simpa using hi
        have hk'' : k < es.toList.length := by simpa using hk'
        rw [List.getElem_set, List.getElem_set]
        split
        · rename_i e
          split
          · omega
          · rename_i e'
            exact fun ee => other k _ (List.getElem?_eq_getElem hk'') (fun x => e' x.symm) ee.symm
        · rename_i e
          split
          · exact fun ee => other i _ (List.getElem?_eq_getElem hi') (fun x => e x.symm) ee
          · exact (List.pairwise_iff_getElem.1 hp) i k hi' hk'' hik
      · intro x hx
        rw [hlist] at hx
        rcases (who x).1 hx with rfl | ⟨hx', _⟩
        · exact ⟨s, rfl, hs⟩
        · exact hk x hx'
      · intro x u
        rw [hlist]
        by_cases hx : x = s
        · subst hx
          simp only [if_true, Option.some.injEq]
          constructor
          · rintro rfl
            exact ⟨_, (who _).2 (Or.inl rfl), rfl, rfl⟩
          · rintro ⟨e1, he1, hke, hve⟩
            rcases (who e1).1 he1 with rfl | ⟨_, hne⟩
            · exact hve
            · exact absurd hke hne
        · simp only [hx, if_false, hf x u]
          constructor
          · rintro ⟨e1, he1, hke, hve⟩
            exact ⟨e1, (who e1).2 (Or.inr ⟨he1, fun e => hx (bs_inj (by simpa using hke.symm.trans e))⟩), hke, hve⟩
          · rintro ⟨e1, he1, hke, hve⟩
            rcases (who e1).1 he1 with rfl | ⟨he1', _⟩
            · exact absurd (bs_inj (by simpa using hke)).symm hx
            · exact ⟨e1, he1', hke, hve⟩

/-- The function f, turned at s. -/
def upd (f : Str → Option Value) (s : Str) (v : Value) : Str → Option Value := fun x => if x = s then some v else f x

theorem upd_same (f : Str → Option Value) (s : Str) (v : Value) : upd f s v s = some v := by simp [upd]
theorem upd_other (f : Str → Option Value) {s x : Str} (v : Value) (h : x ≠ s) : upd f s v x = f x := by simp [upd, h]

/-- 'm[k] = v' at the operation, for the walk: a key that is not there yet. -/
theorem wpList_mapNew (w : World) {ops : Array Oper} {rest : List Oper} {o : Oper} {a : Act} {Q : Exit → Act → World → Prop}
    (hg : o.guard = none) (m x v : Operand) (t : TypeId) (hop : o.op = Op.mapUpdate t m x v) (e : TypeId) (ht : Try.prog.underlying t = some (.map 9 e))
    (b n : Nat) (f : Str → Option Value) (hm : a.eval m = .map (some b)) (hown : MapAt w b f n) (s : Str) (val : Value) (hx : a.eval x = .string (bs s)) (hv : a.eval v = val) (hs : s.length ≤ maxLen) (hf : f s = none)
    (hK : ∀ w', MapAt w' b (upd f s val) (n + 1) → w.grownBy w' (some b) → wpList Try.prog ops Q rest (a.put o.dst undef) w') :
    wpList Try.prog ops Q (o :: rest) a w := by
  refine wpList_plain hg fun K' hK' => ?_
  obtain ⟨w', hrun, r1, r2⟩ := hown.store ht hs val
  unfold Oper.wp
  simp [execOp, hop, hm, hx, hv, hrun, Result.andThen]
  exact hK' _ _ (hK w' (by unfold upd; simpa [hf] using r1) r2)

/-- 'm[k] = v' at the operation, for the walk: a key that is there. -/
theorem wpList_mapOld (w : World) {ops : Array Oper} {rest : List Oper} {o : Oper} {a : Act} {Q : Exit → Act → World → Prop}
    (hg : o.guard = none) (m x v : Operand) (t : TypeId) (hop : o.op = Op.mapUpdate t m x v) (e : TypeId) (ht : Try.prog.underlying t = some (.map 9 e))
    (b n : Nat) (f : Str → Option Value) (hm : a.eval m = .map (some b)) (hown : MapAt w b f n) (s : Str) (val : Value) (hx : a.eval x = .string (bs s)) (hv : a.eval v = val) (hs : s.length ≤ maxLen) (hf : (f s).isSome = true)
    (hK : ∀ w', MapAt w' b (upd f s val) n → w.grownBy w' (some b) → wpList Try.prog ops Q rest (a.put o.dst undef) w') :
    wpList Try.prog ops Q (o :: rest) a w := by
  refine wpList_plain hg fun K' hK' => ?_
  obtain ⟨w', hrun, r1, r2⟩ := hown.store ht hs val
  unfold Oper.wp
  simp [execOp, hop, hm, hx, hv, hrun, Result.andThen]
  exact hK' _ _ (hK w' (by unfold upd; simpa [hf] using r1) r2)

/-- 'm[k] = v' at the operation, for the walk: whether the key is there or not; how many entries there are is left open. -/
theorem wpList_mapStore (w : World) {ops : Array Oper} {rest : List Oper} {o : Oper} {a : Act} {Q : Exit → Act → World → Prop}
    (hg : o.guard = none) (m x v : Operand) (t : TypeId) (hop : o.op = Op.mapUpdate t m x v) (e : TypeId) (ht : Try.prog.underlying t = some (.map 9 e))
    (b n : Nat) (f : Str → Option Value) (hm : a.eval m = .map (some b)) (hown : MapAt w b f n) (s : Str) (val : Value) (hx : a.eval x = .string (bs s)) (hv : a.eval v = val) (hs : s.length ≤ maxLen)
    (hK : ∀ w' n', MapAt w' b (upd f s val) n' → w.grownBy w' (some b) → wpList Try.prog ops Q rest (a.put o.dst undef) w') :
    wpList Try.prog ops Q (o :: rest) a w := by
  cases hf : f s with
  | none => exact wpList_mapNew w hg m x v t hop e ht b n f hm hown s val hx hv hs hf (fun w' h => hK w' _ h)
  | some u => exact wpList_mapOld w hg m x v t hop e ht b n f hm hown s val hx hv hs (by rw [hf]; rfl) (fun w' h => hK w' _ h)

/-- How many entries there are behind a store. -/
def cup (f : Str → Option Value) (s : Str) (n : Nat) : Nat := if (f s).isSome then n else n + 1

/-- 'm[k] = v' at the operation, for the walk: whether the key is there or not. -/
theorem wpList_mapStoreC (w : World) {ops : Array Oper} {rest : List Oper} {o : Oper} {a : Act} {Q : Exit → Act → World → Prop}
    (hg : o.guard = none) (m x v : Operand) (t : TypeId) (hop : o.op = Op.mapUpdate t m x v) (e : TypeId) (ht : Try.prog.underlying t = some (.map 9 e))
    (b n : Nat) (f : Str → Option Value) (hm : a.eval m = .map (some b)) (hown : MapAt w b f n) (s : Str) (val : Value) (hx : a.eval x = .string (bs s)) (hv : a.eval v = val) (hs : s.length ≤ maxLen)
    (hK : ∀ w', MapAt w' b (upd f s val) (cup f s n) → w.grownBy w' (some b) → wpList Try.prog ops Q rest (a.put o.dst undef) w') :
    wpList Try.prog ops Q (o :: rest) a w := by
  cases hf : f s with
  | none => exact wpList_mapNew w hg m x v t hop e ht b n f hm hown s val hx hv hs hf (fun w' h => hK w' (by simpa [cup, hf] using h))
  | some u => exact wpList_mapOld w hg m x v t hop e ht b n f hm hown s val hx hv hs (by rw [hf]; rfl) (fun w' h => hK w' (by simpa [cup, hf] using h))

/-! ### the types -/
theorem zero4 (w : World) : (zeroValue 4).run Try.prog w = .ok (.bool false) w := by kernel_rfl
theorem zero9 (w : World) : (zeroValue 9).run Try.prog w = .ok (.string (bs [])) w := by kernel_rfl
theorem zero23 (w : World) : (zeroValue 23).run Try.prog w = .ok (.slice none 0 0) w := by kernel_rfl
theorem zero32 (w : World) : (zeroValue 32).run Try.prog w = .ok (.int .i8 0) w := by kernel_rfl

/-! ### a set: map[string]bool, all true -/

/-- Block b is the set D. -/
def SetAt (w : World) (b : Nat) (D : List Str) : Prop := D.Nodup ∧ MapAt w b (fun s => if s ∈ D then some (.bool true) else none) D.length

theorem SetAt.made (w : World) : SetAt (w.alloc (.map #[] 0)) w.heap.size [] := ⟨List.nodup_nil, (MapAt.made w).ext (by simp)⟩

theorem SetAt.look {w : World} {b : Nat} {D : List Str} (h : SetAt w b D) {s : Str} (hs : s.length ≤ maxLen) :
    (Instr.lookup 28 (.map (some b)) (.string (bs s)) false).run Try.prog w = .ok (.bool (decide (s ∈ D))) w := by
  rw [h.2.look Try.underlying28 (zero4 w) hs]
  by_cases hm : s ∈ D <;> simp [hm]

theorem SetAt.added {w' : World} {b : Nat} {D : List Str} {s : Str} (hD : D.Nodup) (hs : s ∉ D) (h : MapAt w' b (upd (fun x => if x ∈ D then some (.bool true) else none) s (.bool true)) (D.length + 1)) :
    SetAt w' b (D ++ [s]) := by
  refine ⟨?_, ?_⟩
  · rw [List.nodup_append]
    exact ⟨hD, by simp, fun a ha c hc => by simp only [List.mem_singleton] at hc; subst hc; exact fun e => hs (e ▸ ha)⟩
  · rw [List.length_append, List.length_singleton]
    refine h.ext fun x => ?_
    by_cases hx : x = s
    · simp [upd, hx]
    · simp [upd, hx]

theorem SetAt.length {w : World} {b : Nat} {D : List Str} (h : SetAt w b D) (ty : TypeId) : (Builtin.len_ #[28] ty #[.map (some b)]).run Try.prog w = .ok (.int .i64 D.length) w := h.2.length Try.underlying28 ty

theorem SetAt.kept {w w' : World} {b : Nat} {D : List Str} {row : Option Nat} (h : SetAt w b D) (hg : w.grownBy w' row) (hne : some b ≠ row) : SetAt w' b D := ⟨h.1, h.2.kept hg hne⟩
theorem SetAt.below {w w' : World} {b B : Nat} {D : List Str} (h : SetAt w b D) (hb : Below B w w') (hB : b < B) : SetAt w' b D := ⟨h.1, h.2.below hb hB⟩
theorem SetAt.alloc {w : World} {b : Nat} {D : List Str} (h : SetAt w b D) (o : Obj) : SetAt (w.alloc o) b D := ⟨h.1, h.2.alloc o⟩

/-- 's[k] = true', k not in it yet, at the operation. -/
theorem wpList_setAdd (w : World) {ops : Array Oper} {rest : List Oper} {o : Oper} {a : Act} {Q : Exit → Act → World → Prop}
    (hg : o.guard = none) (m x v : Operand) (hop : o.op = Op.mapUpdate 28 m x v)
    (b : Nat) (D : List Str) (hm : a.eval m = .map (some b)) (hown : SetAt w b D) (s : Str) (hx : a.eval x = .string (bs s)) (hv : a.eval v = .bool true) (hs : s.length ≤ maxLen) (hD : s ∉ D)
    (hK : ∀ w', SetAt w' b (D ++ [s]) → w.grownBy w' (some b) → wpList Try.prog ops Q rest (a.put o.dst undef) w') :
    wpList Try.prog ops Q (o :: rest) a w :=
  wpList_mapNew w hg m x v 28 hop 4 Try.underlying28 b _ _ hm hown.2 s _ hx hv hs (by simp [hD]) fun w' h1 h2 => hK w' (SetAt.added hown.1 hD h1) h2

/-! ### a slice of strings that the call made and appends to -/

/-- The slice value v owns, among the blocks from base on, a row that begins with ss. -/
def Stack (w : World) (base : Nat) (v : Value) (ss : List Str) : Prop := w.ownsRow base 9 1 v ss.length (ss.map fun s => .string (bs s))

theorem Stack.nil (w : World) (base : Nat) : Stack w base (.slice none 0 0) [] := World.ownsRow_nil _ _ _ _

theorem Stack.form {w : World} {base : Nat} {v : Value} {ss : List Str} (h : Stack w base v ss) : ∃ a cap, v = .slice a ss.length cap := by
  rcases h.2 with ⟨rfl, h0⟩ | ⟨g, cap, cur, hv, _⟩
  · exact ⟨none, 0, by rw [h0]⟩
  · exact ⟨_, cap, hv⟩

theorem Stack.get {w : World} {base : Nat} {a : Option Addr} {n cap : Nat} {ss : List Str} (h : Stack w base (.slice a n cap) ss) {k : Nat} (hk : k < ss.length) :
    ∃ g s, a = some ⟨g, 0, none⟩ ∧ base ≤ g ∧ ss.length ≤ cap ∧ Hid (s = ss[k]) ∧ w.cell? ⟨g, k, none⟩ = some (.string (bs s)) := by
  have h' := h
  rcases h.2 with ⟨h0, h1⟩ | ⟨g, cap', cur, hv, hb, _, hn, _⟩
  · omega
  · simp only [Value.slice.injEq] at hv
    obtain ⟨rfl, rfl, rfl⟩ := hv
    refine ⟨g, _, rfl, hb, hn, rfl, ?_⟩
    rw [World.ownsRow.cellAt h' k (by omega)]
    simp [hk]

theorem Stack.alloc {w : World} {base : Nat} {v : Value} {ss : List Str} (h : Stack w base v ss) (o : Obj) : Stack (w.alloc o) base v ss := World.ownsRow.alloc h o

theorem Stack.kept {w w' : World} {base m : Nat} {v : Value} {ss : List Str} (h : Stack w base v ss) (hg : w.grownBy w' (some m)) (hm : m < base) : Stack w' base v ss :=
  World.ownsRow.kept h hg (by
    cases hv : v.ownBlock with
    | none => exact Or.inl rfl
    | some g =>
      right
      have := (h.lt g hv).1
      simp only [ne_eq, Option.some.injEq]
      omega)

theorem Stack.rowGe {w : World} {base : Nat} {v : Value} {ss : List Str} (h : Stack w base v ss) : ∀ k, v.ownBlock = some k → base ≤ k := fun k hk => (h.lt k hk).1

theorem Stack.rowNe {w : World} {base m : Nat} {v : Value} {ss : List Str} (h : Stack w base v ss) (hm : m < base) : some m ≠ v.ownBlock := fun e => by
  have := h.rowGe m e.symm
  omega

theorem Stack.pop {w : World} {base g cap : Nat} {ss : List Str} {s : Str} {n : Nat} (h : Stack w base (.slice (some ⟨g, 0, none⟩) n cap) (ss ++ [s])) : Stack w base (.slice (some ⟨g, 0, none⟩) ss.length cap) ss := by
  obtain ⟨a, cap', hv⟩ := h.form
  simp only [Value.slice.injEq] at hv
  obtain ⟨_, rfl, _⟩ := hv
  have h' : w.ownsRow base 9 1 (.slice (some ⟨g, 0, none⟩) (ss.length + 1) cap) (ss.length + 1) ((ss.map fun s => .string (bs s)) ++ [.string (bs s)]) := by
    have := h
    unfold Stack at this
    simpa using this
  exact ownsRow_pop (by simp) h'

theorem Stack.zero {w : World} {base g cap n : Nat} {ss : List Str} (h : Stack w base (.slice (some ⟨g, 0, none⟩) n cap) ss) : Stack w base (.slice (some ⟨g, 0, none⟩) 0 cap) [] := by
  rcases h.2 with ⟨h0, _⟩ | ⟨g', cap', cur, hv, hb, hh, hn, hm, hs, _⟩
  · cases h0
  · simp only [Value.slice.injEq] at hv
    obtain ⟨hg, _, rfl⟩ := hv
    cases hg
    exact ⟨rfl, Or.inr ⟨g, cap, cur, rfl, hb, hh, Nat.zero_le _, hm, hs, by simp⟩⟩

theorem Stack.appended {w : World} {base n : Nat} {v : Value} {ss : List Str} {s : Str} (h : w.ownsRow base 9 1 v (ss.length + 1) ((ss.map fun s => .string (bs s)) ++ [.string (bs s)])) : Stack w base v (ss ++ [s]) := by
  unfold Stack
  simpa using h

/-! ### the map of children -/

/-- The map value mv holds, at each of the keys, a slice that reads as C of it. -/
def ChMap (w : World) (mv : Value) (keys : List Str) (C : Str → List Str) : Prop :=
  keys.Nodup ∧ (∀ s, s ∉ keys → C s = []) ∧
  ((mv = .map none ∧ keys = []) ∨ ∃ b f, mv = .map (some b) ∧ MapAt w b f keys.length ∧ (∀ s, s ∈ keys ↔ (f s).isSome = true) ∧ ∀ s v, f s = some v → SV w v (C s))

theorem ChMap.get {w : World} {mv : Value} {keys : List Str} {C : Str → List Str} (h : ChMap w mv keys C) {s : Str} (hs : s.length ≤ maxLen) :
    ∃ la lcap, (Instr.lookup 22 mv (.string (bs s)) false).run Try.prog w = .ok (.slice la (C s).length lcap) w ∧ SV w (.slice la (C s).length lcap) (C s) := by
  obtain ⟨_, h0, ⟨rfl, rfl⟩ | ⟨b, f, rfl, hm, hk, hv⟩⟩ := h
  · obtain ⟨l, hl⟩ := key9 hs
    have e : C s = [] := h0 s (by simp)
    exact ⟨none, 0, by rw [Maps.look_nil false law9 Try.underlying22 (zero23 w) hl, e]; rfl, by rw [e]; exact SV.nil w⟩
  · have hl := hm.look Try.underlying22 (zero23 w) hs
    cases hf : f s with
    | none =>
      have e : C s = [] := h0 s (fun hm => by have := (hk s).1 hm; rw [hf] at this; cases this)
      rw [hf] at hl
      exact ⟨none, 0, by rw [hl, e]; rfl, by rw [e]; exact SV.nil w⟩
    | some v =>
      rw [hf] at hl
      have hsv := hv s v hf
      obtain ⟨a, cap, rfl⟩ := hsv.len
      exact ⟨a, cap, hl, hsv⟩

/-- .. in whatever later world. -/
theorem ChMap.getB {w : World} {mv : Value} {keys : List Str} {C : Str → List Str} (h : ChMap w mv keys C) {s : Str} (hs : s.length ≤ maxLen) :
    ∃ la lcap, (∀ w', Below w.heap.size w w' → (Instr.lookup 22 mv (.string (bs s)) false).run Try.prog w' = .ok (.slice la (C s).length lcap) w') ∧ SV w (.slice la (C s).length lcap) (C s) := by
  obtain ⟨_, h0, ⟨rfl, rfl⟩ | ⟨b, f, rfl, hm, hk, hv⟩⟩ := h
  · obtain ⟨l, hl⟩ := key9 hs
    have e : C s = [] := h0 s (by simp)
    exact ⟨none, 0, fun w' _ => by rw [Maps.look_nil false law9 Try.underlying22 (zero23 w') hl, e]; rfl, by rw [e]; exact SV.nil w⟩
  · have hl := fun w' (hb : Below w.heap.size w w') => (hm.below hb hm.lt).look Try.underlying22 (zero23 w') hs
    cases hf : f s with
    | none =>
      have e : C s = [] := h0 s (fun hm => by have := (hk s).1 hm; rw [hf] at this; cases this)
      rw [hf] at hl
      exact ⟨none, 0, fun w' hb => by rw [hl w' hb, e]; rfl, by rw [e]; exact SV.nil w⟩
    | some v =>
      rw [hf] at hl
      have hsv := hv s v hf
      obtain ⟨a, cap, rfl⟩ := hsv.len
      exact ⟨a, cap, hl, hsv⟩

theorem ChMap.getOk {w : World} {mv : Value} {keys : List Str} {C : Str → List Str} (h : ChMap w mv keys C) {s : Str} (hs : s.length ≤ maxLen) :
    ∃ lv, (Instr.lookup 22 mv (.string (bs s)) true).run Try.prog w = .ok (.tuple #[lv, .bool (decide (s ∈ keys))]) w := by
  obtain ⟨_, h0, ⟨rfl, rfl⟩ | ⟨b, f, rfl, hm, hk, hv⟩⟩ := h
  · obtain ⟨l, hl⟩ := key9 hs
    exact ⟨_, by rw [Maps.look_nil true law9 Try.underlying22 (zero23 w) hl]; simp; rfl⟩
  · have : decide (s ∈ keys) = (f s).isSome := by
      rw [Bool.eq_iff_iff, decide_eq_true_eq]
      exact hk s
    exact ⟨_, by rw [this]; exact hm.lookOk Try.underlying22 (zero23 w) hs⟩

theorem ChMap.length {w : World} {mv : Value} {keys : List Str} {C : Str → List Str} (h : ChMap w mv keys C) (ty : TypeId) :
    (Builtin.len_ #[22] ty #[mv]).run Try.prog w = .ok (.int .i64 keys.length) w := by
  obtain ⟨_, h0, ⟨rfl, rfl⟩ | ⟨b, f, rfl, hm, hk, hv⟩⟩ := h
  · exact Maps.len_nil Try.underlying22 ty
  · exact hm.length Try.underlying22 ty

theorem ChMap.below {w w' : World} {mv : Value} {keys : List Str} {C : Str → List Str} (h : ChMap w mv keys C) (hb : Below w.heap.size w w') : ChMap w' mv keys C := by
  obtain ⟨h1, h0, h2 | ⟨b, f, rfl, hm, hk, hv⟩⟩ := h
  · exact ⟨h1, h0, Or.inl h2⟩
  · exact ⟨h1, h0, Or.inr ⟨b, f, rfl, hm.below hb hm.lt, hk, fun s v hs => (hv s v hs).below hb⟩⟩

end Go.Proofs.Qxb6601503a
