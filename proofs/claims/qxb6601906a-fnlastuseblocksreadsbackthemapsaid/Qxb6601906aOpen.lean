/-
  From what the row's reader has read to the view of memory: the slice of int64.
-/
import Derived.Test.Qxb6601906aBase
import Derived.ProofKit
import Derived.OpenShut
namespace Go.Proofs.Qxb6601906a
open Go.ChangeShapes Go.WideShapes Go.ChangeAt Go.RowKit
set_option linter.unusedVariables false

theorem cells2 : Try.prog.cellsOf 2 = 1 := by kernel_rfl

theorem addr_of_cell {w : World} {a : Addr} {u : Value} (h : w.cell? a = some u) : a = ⟨a.block, a.off, none⟩ := by
  unfold World.cell? at h
  cases hs : a.spot with
  | none => cases a; simp at hs; simp [hs]
  | some n =>
    rw [hs] at h
    split at h <;> simp at h

theorem fits_of_wf {z : Int} (h : (Lit.int .i64 z).wf = true) : Fits z := by
  exact bounds_i64 h

theorem iv_of_trod {H : Type} {enc : TypeId × Value → H} {W : World} {base : Nat} {sp : Nat → Bool} {held : Bool} {fuel : Nat} {v : Value} {x : DataW H × List MemPlace}
    (h : DataW.trod enc Try.prog W base sp held fuel 22 [v] = some x) : ∃ zs, IV W v zs := by
  rcases open_ints Try.underlying22 Try.underlying2 cells2 h with ⟨hcs, _⟩ | ⟨a, len, cap, zs, hcs, _, hl, hm, hz, _, hcell, hwz⟩
  · simp at hcs
    subst hcs
    exact ⟨[], IV.nil W⟩
  · simp at hcs
    subst hcs
    have hle : len ≤ zs.length := by rw [hz]; split <;> omega
    have hlen : (zs.take len).length = len := by simp; omega
    refine ⟨zs.take len, some a, cap, by rw [hlen], (fun e => by cases e), by rw [hlen]; exact hl, hm, ?_, ?_⟩
    · intro z hz'
      exact fits_of_wf (hwz z (List.mem_of_mem_take hz'))
    · intro j hj
      rw [hlen] at hj
      have h0 := hcell 0 (by omega)
      have ha : a = ⟨a.block, a.off, none⟩ := addr_of_cell (w := W) (by simpa [Addr.add] using h0)
      refine ⟨a.block, a.off, by rw [← ha], ?_⟩
      have hj' := hcell j (by omega)
      rw [ha, Addr.add_lit] at hj'
      rw [hj']
      simp [List.getD, hj]

end Go.Proofs.Qxb6601906a
