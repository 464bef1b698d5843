/-
  From what the row's reader has read to the views of memory: the slice of strings, the map of children.
-/
import Derived.Test.Qxb6601503aBase
import Derived.ProofKit
import Derived.SliceStrings
namespace Go.Proofs.Qxb6601503a
open Go.ChangeShapes Go.WideShapes Go.ChangeAt Go.RowKit
set_option linter.unusedVariables false

theorem cells9 : Try.prog.cellsOf 9 = 1 := by kernel_rfl

theorem addr_of_cell {w : World} {a : Addr} {u : Value} (h : w.cell? a = some u) : a = ⟨a.block, a.off, none⟩ := by
  unfold World.cell? at h
  cases hs : a.spot with
  | none => cases a; simp at hs; simp [hs]
  | some n =>
    rw [hs] at h
    split at h <;> simp at h

theorem sv_of_trod {H : Type} {enc : TypeId × Value → H} {W : World} {base : Nat} {sp : Nat → Bool} {held : Bool} {fuel : Nat} {v : Value} {x : DataW H × List MemPlace}
    (h : DataW.trod enc Try.prog W base sp held fuel 23 [v] = some x) : ∃ ss, SV W v ss := by
  rcases open_strings Try.underlying23 Try.underlying9 cells9 h with ⟨hcs, _⟩ | ⟨a, len, cap, ss, hcs, _, hl, hm, hz, _, hcell, hws⟩
  · simp at hcs
    subst hcs
    exact ⟨[], SV.nil W⟩
  · simp at hcs
    subst hcs
    have hle : len ≤ ss.length := by rw [hz]; split <;> omega
    have hlen : ((ss.take len).map (fun s => s.data.toList)).length = len := by simp; omega
    refine ⟨(ss.take len).map (fun s => s.data.toList), some a, cap, by rw [hlen], (fun e => by cases e), by rw [hlen]; exact hl, hm, ?_, ?_⟩
    · intro s hs
      obtain ⟨b, hb, rfl⟩ := List.mem_map.1 hs
      exact hws b (List.mem_of_mem_take hb)
    · intro j hj
      rw [hlen] at hj
      have h0 := hcell 0 (by omega)
      have ha : a = ⟨a.block, a.off, none⟩ := addr_of_cell (w := W) (by simpa [Addr.add] using h0)
      refine ⟨a.block, a.off, by rw [← ha], ?_⟩
      have hj' := hcell j (by omega)
      rw [ha, Addr.add_lit] at hj'
      simp only [List.getElem_map, List.getElem_take, bs_data]
      simpa [List.getD, show j < ss.length by omega] using hj'

/-- The strings that lie where v leads. -/
def readSV (w : World) (v : Value) : List Str :=
  match v with
  | .slice (some a) n _ => (List.range n).map fun j => match w.cell? ⟨a.block, a.off + j, none⟩ with | some (.string b) => b.data.toList | _ => []
  | _ => []

theorem SV.read {w : World} {v : Value} {ss : List Str} (h : SV w v ss) : ss = readSV w v := by
  obtain ⟨a, cap, rfl, h0, h1, _, _, hc⟩ := h
  cases a with
  | none =>
    have := h0 rfl
    have e : ss = [] := List.eq_nil_of_length_eq_zero (by omega)
    rw [e]
    rfl
  | some a =>
    unfold readSV
    apply List.ext_getElem
    · simp
    · intro j hj hj'
      obtain ⟨b, off, e, hcj⟩ := hc j hj
      cases e
      simp [hcj, bs]

def isKey (k : Value) (s : Str) : Bool := match k with | .string b => b.toList == s | _ => false

theorem isKey_iff {k : Value} {s : Str} : isKey k s = true ↔ k = .string (bs s) := by
  constructor
  · intro h
    unfold isKey at h
    split at h
    · rename_i b
      have : b.toList = s := by simpa using h
      rw [← this, ByteArray.toList_eq, bs_data]
    · cases h
  · rintro rfl
    simp [isKey, bs_toList]

theorem chmap_of_trod {H : Type} {enc : TypeId × Value → H} {W : World} {base : Nat} {sp : Nat → Bool} {held : Bool} {fuel : Nat} {mv : Value} {x : DataW H × List MemPlace}
    (h : DataW.trod enc Try.prog W base sp held fuel 22 [mv] = some x) : ∃ keys C, ChMap W mv keys C := by
  rcases WideElems.open_map Try.underlying22 h with ⟨hcs, _⟩ | ⟨b, es, clock, n, _, hcs, hb, _, F, _⟩
  · simp at hcs
    subst hcs
    exact ⟨[], fun _ => [], List.nodup_nil, by simp, Or.inl ⟨rfl, rfl⟩⟩
  · simp at hcs
    subst hcs
    have hp : es.toList.Pairwise (fun x y => x.key ≠ y.key) := ((MapKept.stamped_iff es clock).1 F.stamped).2.2
    have hk : ∀ e ∈ es.toList, ∃ s : Str, e.key = .string (bs s) ∧ s.length ≤ maxLen := by
      intro e he
      obtain ⟨y, hy⟩ := F.reads e he
      have h1 := WideElems.rd_key hy
      have h2 : mapKey Try.prog 9 e.key = some y.1 := by
        simpa [keyOf, Try.underlying9] using h1
      unfold mapKey at h2
      rw [Try.underlying9] at h2
      cases hk : e.key with
      | string bsx =>
        rw [hk] at h2
        simp at h2
        exact ⟨bsx.data.toList, by rw [bs_data], h2.1⟩
      | _ => rw [hk] at h2; simp at h2
    have hf : ∀ s v, (es.toList.find? (fun e => isKey e.key s)).map (·.val) = some v ↔ ∃ e ∈ es.toList, e.key = .string (bs s) ∧ e.val = v := by
      intro s v
      constructor
      · intro hv
        obtain ⟨e, he, rfl⟩ := Option.map_eq_some_iff.1 hv
        exact ⟨e, List.mem_of_find?_eq_some he, isKey_iff.1 (List.find?_some (p := fun e : MapEntry => isKey e.key s) he), rfl⟩
      · rintro ⟨e, he, hke, rfl⟩
        cases hfd : es.toList.find? (fun e => isKey e.key s) with
        | none => exact absurd (isKey_iff.2 hke) (by simpa using List.find?_eq_none.1 hfd e he)
        | some e' =>
          have h1 := List.mem_of_find?_eq_some hfd
          have h2 := isKey_iff.1 (List.find?_some (p := fun e : MapEntry => isKey e.key s) hfd)
          have : e' = e := by
            obtain ⟨i, hi, ei⟩ := List.getElem_of_mem h1
            obtain ⟨j, hj, ej⟩ := List.getElem_of_mem he
            rcases Nat.lt_trichotomy i j with hlt | heq | hgt
            · exact absurd (by rw [ei, ej, h2, hke]) ((List.pairwise_iff_getElem.1 hp) i j hi hj hlt)
            · subst heq; exact ei.symm.trans ej
            · exact absurd (by rw [ei, ej, h2, hke]) ((List.pairwise_iff_getElem.1 hp) j i hj hi hgt)
          rw [this]
          rfl
    have hM : MapAt W b (fun s => (es.toList.find? (fun e => isKey e.key s)).map (·.val)) es.size := ⟨es, clock, hb, rfl, hp, hk, hf⟩
    have hel : ∀ e ∈ es.toList, ∃ ss, SV W e.val ss := by
      intro e he
      obtain ⟨y, hy⟩ := F.reads e he
      obtain ⟨z, hz, _⟩ := WideElems.rd_val hy
      unfold WideElems.elemAt at hz
      split at hz
      · have hc : e.val.cells.toList = [e.val] := by
          cases hv : e.val with
          | agg cs =>
            rename_i hform
            rw [hv] at hform
            simp [Value.formed, Try.underlying23] at hform
          | _ => rfl
        rw [hc] at hz
        exact sv_of_trod hz
      · cases hz
    obtain ⟨ks, k1, k2, k3, k4⟩ := hM.keys
    refine ⟨ks, fun s => (((es.toList.find? (fun e => isKey e.key s)).map (·.val)).map (readSV W)).getD [], k1, fun s hs => ?_, Or.inr ⟨b, _, rfl, by rw [k2]; exact hM, k3, fun s v hv => ?_⟩⟩
    · cases hv : (es.toList.find? (fun e => isKey e.key s)).map (·.val) with
      | none => show (((es.toList.find? (fun e => isKey e.key s)).map (·.val)).map (readSV W)).getD [] = []; rw [hv]; rfl
      | some v => exact absurd ((k3 s).2 (by rw [hv]; rfl)) hs
    · obtain ⟨e, he, _, rfl⟩ := (hf s v).1 hv
      obtain ⟨ss, hss⟩ := hel e he
      have hv' : (es.toList.find? (fun e => isKey e.key s)).map (·.val) = some e.val := hv
      show SV W e.val ((((es.toList.find? (fun e => isKey e.key s)).map (·.val)).map (readSV W)).getD [])
      rw [hv']
      simp only [Option.map_some, Option.getD_some]
      rw [← hss.read]
      exact hss

end Go.Proofs.Qxb6601503a
