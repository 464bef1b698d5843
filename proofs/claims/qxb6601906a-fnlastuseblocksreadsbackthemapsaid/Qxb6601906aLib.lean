/-
  The library's calls on the road, over this seat's views: slices.Sort, slices.Compact, slices.BinarySearch.
-/
import Derived.Test.Qxb6601906aBase
import Derived.Test.Qxb6601906aLays
import Derived.Shelf.SortG.SortNone
import Derived.Shelf.SlicesG.CompactI
import Derived.Shelf.SlicesG.SearchI
import Derived.Sort.OwnSorted
namespace Go.Proofs.Qxb6601906a
open Go.RowKit Go.Sort
set_option linter.unusedVariables false

/-- The list, sorted. -/
def srt (zs : List Int) : List Int := zs.mergeSort fun x y => decide (x ≤ y)

theorem srt_length (zs : List Int) : (srt zs).length = zs.length := (List.mergeSort_perm zs _).length_eq

theorem holds_block {w : World} {g : Nat} {cur : Array Value} {e : TypeId} {zs : List Int} (hb : w.heap[g]? = some (.cells cur e (0, 0))) (ht : cur.toList.take zs.length = zs.map (Value.int .i64)) : Holds (Value.int .i64) w g 0 zs.toArray := by
  intro j hj
  have hj' : j < zs.length := by simpa using hj
  refine ⟨?_, by simp [World.frozen?, hb]⟩
  have h1 : (cur.toList.take zs.length)[j]? = (zs.map (Value.int .i64))[j]? := by rw [ht]
  rw [List.getElem?_take_of_lt hj'] at h1
  simp only [World.cell?, hb, Nat.zero_add]
  simp only [Option.isSome_none, Bool.false_eq_true, if_false]
  rw [← Array.getElem?_toList, h1]
  simp [hj']

theorem heap_put {w : World} {g n : Nat} {os : Array Obj} {cur : Array Value} {e : TypeId} {fr : Nat × Nat} (d : Array Int) (hb : w.heap[g]? = some (.cells cur e fr)) :
    (grow (putRow (Value.int .i64) (Sort.ahead w n) g 0 d) os).heap[g]? = some (.cells (putCells (Value.int .i64) 0 d cur) e fr) := by
  have hg : g < w.heap.size := (Array.getElem?_eq_some_iff.1 hb).1
  rw [heap_grow_old _ _ (by simpa using hg)]
  simp [putRow, mapBlock, Sort.ahead, Array.getElem?_modify, hb, onCells]

theorem below_put {w : World} {g n B : Nat} {os : Array Obj} (d : Array Int) (hB : B ≤ w.heap.size) (hg : B ≤ g) : Below B w (grow (putRow (Value.int .i64) (Sort.ahead w n) g 0 d) os) := by
  refine ⟨rfl, rfl, rfl, by simp, fun k hk => ?_⟩
  rw [heap_grow_old _ _ (by simp; omega)]
  have : g ≠ k := by omega
  simp [putRow, mapBlock, Sort.ahead, Array.getElem?_modify, this]

theorem take_put (cur : Array Value) (ts us : List Int) (h : (ts ++ us).length ≤ cur.size) : (putCells (Value.int .i64) 0 (ts ++ us).toArray cur).toList.take ts.length = ts.map (Value.int .i64) := by
  apply List.ext_getElem?
  intro j
  by_cases hj : j < ts.length
  · rw [List.getElem?_take_of_lt hj, Array.getElem?_toList]
    have h2 : j < (ts ++ us).length := by simp; omega
    have h3 : j < cur.size := by omega
    simp [putCells, hj, h3]
    rw [if_pos (by omega), List.getElem?_append_left hj, List.getElem?_eq_getElem hj]
    rfl
  · rw [List.getElem?_take_eq_none (by omega), List.getElem?_eq_none (by simp; omega)]

theorem sort_any (w : World) (base : Nat) (v : Value) (zs : List Int) (h : IStack w base v zs) (hbase : base ≤ w.heap.size) (hl : zs.length < 4611686018427387904) :
    Calls Try.prog 7 #[v] w fun e w' => e = .returned (.tuple #[]) ∧ IStack w' base v (srt zs) ∧ Below base w w' := by
  rcases h.2 with ⟨rfl, h0⟩ | ⟨g, cap, cur, rfl, hg, hb, h1, h2, h3, h4⟩
  · have hz : zs = [] := List.eq_nil_of_length_eq_zero h0
    subst hz
    have hcon := AnyG.slices_Sort_int_none Try.l7 none 0 w
    change Calls Try.prog 7 _ _ _ at hcon
    refine hcon.mono ?_
    rintro e w' ⟨rfl, rfl⟩
    exact ⟨rfl, by simpa [srt] using h, Below.refl _ _⟩
  · have hgl : g < w.heap.size := (Array.getElem?_eq_some_iff.1 hb).1
    have hcon := AnyG.slices_Sort_int Try.l7 g 0 cap zs w (holds_block hb (by simpa using h4)) hgl hl
    change Calls Try.prog 7 _ _ _ at hcon
    refine hcon.mono ?_
    rintro e w' ⟨rfl, n, os, rfl⟩
    refine ⟨rfl, ?_, below_put _ hbase hg⟩
    have hs := srt_length zs
    refine ⟨by simp, Or.inr ⟨g, cap, _, by rw [hs], hg, heap_put _ hb, by rw [hs]; exact h1, h2, by simp [putCells, h3], ?_⟩⟩
    have := take_put cur (srt zs) [] (by rw [List.append_nil, hs]; omega)
    rw [List.append_nil] at this
    rw [Nat.mul_one]
    exact this

theorem compact_any (w : World) (base : Nat) (v : Value) (zs : List Int) (h : IStack w base v zs) (hbase : base ≤ w.heap.size) (hl : zs.length < 4611686018427387904) :
    Calls Try.prog 8 #[v] w fun e w' => ∃ u, e = .returned u ∧ IStack w' base u (Lib.compact zs) ∧ Below base w w' := by
  rcases h.2 with ⟨rfl, h0⟩ | ⟨g, cap, cur, rfl, hg, hb, h1, h2, h3, h4⟩
  · have hz : zs = [] := List.eq_nil_of_length_eq_zero h0
    subst hz
    have hcon := AnyG.slices_Compact_int_empty Try.l8 none 0 w
    change Calls Try.prog 8 _ _ _ at hcon
    refine hcon.mono ?_
    rintro e w' ⟨rfl, rfl⟩
    exact ⟨_, rfl, h, Below.refl _ _⟩
  · have hgl : g < w.heap.size := (Array.getElem?_eq_some_iff.1 hb).1
    have hcon := AnyG.slices_Compact_int Try.l8 g 0 cap zs w (holds_block hb (by simpa using h4)) (by omega) h1
    change Calls Try.prog 8 _ _ _ at hcon
    refine hcon.mono ?_
    rintro e w' ⟨rfl, n, rfl⟩
    have hc := compact_length zs
    refine ⟨_, rfl, ?_, ?_⟩
    · have hp := heap_put (n := n) (os := #[]) (Lib.compact zs ++ List.replicate (zs.length - (Lib.compact zs).length) 0).toArray hb
      rw [grow_empty] at hp
      refine ⟨by simp, Or.inr ⟨g, cap, _, rfl, hg, hp, by omega, h2, by simp [putCells, h3], ?_⟩⟩
      rw [Nat.mul_one]
      exact take_put cur _ _ (by simp; omega)
    · have := below_put (n := n) (os := #[]) (Lib.compact zs ++ List.replicate (zs.length - (Lib.compact zs).length) 0).toArray hbase hg
      rwa [grow_empty] at this

theorem search_any (w : World) (v : Value) (zs : List Int) (x : Int) (h : IV w v zs) (hl : zs.length < 4611686018427387904) (hs : zs.Pairwise (· < ·)) (hx : x ∈ zs) :
    Calls Try.prog 9 #[v, .int .i64 x] w fun e w' => ∃ (i : Nat) (o : Bool), e = .returned (.tuple #[.int .i64 i, .bool o]) ∧ i < zs.length ∧ zs.getD i 0 = x ∧ ∃ q, w' = w.drewN q := by
  have hp := place_of hs hx
  obtain ⟨a, cap, rfl, h0, h1, h2, h3, h4⟩ := h
  obtain ⟨b, off, rfl, _⟩ := h4 _ hp.1
  have hcon := AnyG.slices_BinarySearch_int Try.l9 b off zs.length cap zs x w (Nat.le_refl _) hl (fun j hj => by
    obtain ⟨b', off', e, hc⟩ := h4 j hj
    cases e
    exact hc) (by rw [List.take_length]; exact pw_weaker (fun a b h => Int.le_of_lt h) hs)
  change Calls Try.prog 9 _ _ _ at hcon
  refine hcon.mono ?_
  rintro e w' ⟨rfl, hq⟩
  rw [List.take_length]
  exact ⟨_, _, rfl, hp.1, hp.2, hq⟩

end Go.Proofs.Qxb6601906a
