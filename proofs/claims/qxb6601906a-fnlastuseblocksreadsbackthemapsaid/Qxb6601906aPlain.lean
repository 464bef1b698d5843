/-
  Plain facts, no Go in sight: rising lists, what is left when runs are struck, counting.
-/
import Derived.Lib.SlicesCompact
import Derived.Test.Qxb6601906aRows
namespace Go.Proofs.Qxb6601906a
set_option linter.unusedVariables false

theorem pw_weaker {α : Type} {R S : α → α → Prop} (h : ∀ a b, R a b → S a b) {l : List α} (hp : l.Pairwise R) : l.Pairwise S := by
  induction l with
  | nil => exact List.Pairwise.nil
  | cons a r ih =>
    obtain ⟨h1, h2⟩ := List.pairwise_cons.1 hp
    exact List.pairwise_cons.2 ⟨fun b hb => h a b (h1 b hb), ih h2⟩

/-- Runs struck from a rising array: what is left rises strictly, and has the same members. -/
theorem compactUpTo_rises (d : Array Int) (hs : ∀ i j, i ≤ j → j < d.size → d[i]! ≤ d[j]!) : ∀ m, m ≤ d.size →
    (Lib.compactUpTo d m).Pairwise (· < ·) ∧ (∀ x ∈ Lib.compactUpTo d m, ∃ j, j < m ∧ x = d[j]!) ∧ (∀ j, j < m → d[j]! ∈ Lib.compactUpTo d m)
  | 0, _ => by simp [Lib.compactUpTo]
  | m + 1, hm => by
    obtain ⟨h1, h2, h3⟩ := compactUpTo_rises d hs m (by omega)
    rw [Lib.compactUpTo_succ]
    by_cases hk : Lib.keeps d m = true
    · simp only [hk, if_true]
      have hgt : ∀ x ∈ Lib.compactUpTo d m, x < d[m]! := by
        intro x hx
        obtain ⟨j, hj, rfl⟩ := h2 x hx
        have ha := hs j (m - 1) (by omega) (by omega)
        have hb := hs (m - 1) m (by omega) (by omega)
        have hne : d[m]! ≠ d[m - 1]! := by
          simp only [Lib.keeps, decide_eq_true_eq] at hk
          exact hk.resolve_left (by omega)
        omega
      refine ⟨?_, ?_, ?_⟩
      · rw [List.pairwise_append]
        exact ⟨h1, by simp, fun a ha b hb => by simp only [List.mem_singleton] at hb; subst hb; exact hgt a ha⟩
      · intro x hx
        simp only [List.mem_append, List.mem_singleton] at hx
        rcases hx with hx | rfl
        · obtain ⟨j, hj, e⟩ := h2 x hx
          exact ⟨j, by omega, e⟩
        · exact ⟨m, by omega, rfl⟩
      · intro j hj
        by_cases e : j = m
        · subst e; simp
        · exact List.mem_append_left _ (h3 j (by omega))
    · rw [if_neg hk, List.append_nil]
      refine ⟨h1, fun x hx => ?_, fun j hj => ?_⟩
      · obtain ⟨j, hj, e⟩ := h2 x hx
        exact ⟨j, by omega, e⟩
      · by_cases e : j = m
        · subst e
          have : j ≠ 0 ∧ d[j]! = d[j - 1]! := by
            simp only [Lib.keeps, decide_eq_true_eq, not_or, Decidable.not_not] at hk
            exact hk
          rw [this.2]
          exact h3 (j - 1) (by omega)
        · exact h3 j (by omega)

theorem compact_rises {zs : List Int} (hs : zs.Pairwise (· ≤ ·)) : (Lib.compact zs).Pairwise (· < ·) ∧ ∀ x, x ∈ Lib.compact zs ↔ x ∈ zs := by
  have hle : ∀ i j, i ≤ j → j < zs.toArray.size → zs.toArray[i]! ≤ zs.toArray[j]! := by
    intro i j hij hj
    have hj' : j < zs.length := by simpa using hj
    rw [getElem!_pos zs.toArray i (by simp; omega), getElem!_pos zs.toArray j hj]
    by_cases e : i = j
    · subst e; exact Int.le_refl _
    · simpa using (List.pairwise_iff_getElem.1 hs) i j (by omega) hj' (by omega)
  obtain ⟨h1, h2, h3⟩ := compactUpTo_rises zs.toArray hle zs.length (by simp)
  refine ⟨h1, fun x => ⟨fun hx => ?_, fun hx => ?_⟩⟩
  · obtain ⟨j, hj, rfl⟩ := h2 x hx
    rw [getElem!_pos zs.toArray j (by simpa using hj)]
    simp
  · obtain ⟨j, hj, rfl⟩ := List.getElem_of_mem hx
    have := h3 j hj
    rw [getElem!_pos zs.toArray j (by simpa using hj)] at this
    show zs[j] ∈ Lib.compactUpTo zs.toArray zs.length
    simpa using this

theorem compact_length (zs : List Int) : (Lib.compact zs).length ≤ zs.length := by
  unfold Lib.compact Lib.compactUpTo
  rw [List.length_map]
  exact Nat.le_trans (List.length_filter_le _ _) (by simp)

theorem sorted_rises (zs : List Int) : (zs.mergeSort fun x y => decide (x ≤ y)).Pairwise (· ≤ ·) := by
  have := List.pairwise_mergeSort (le := fun x y : Int => decide (x ≤ y)) (fun a b c h1 h2 => by simp only [decide_eq_true_eq] at *; omega) (fun a b => by simp only [Bool.or_eq_true, decide_eq_true_eq]; omega) zs
  exact pw_weaker (fun a b h => by simpa using h) this

theorem sorted_mem (zs : List Int) (x : Int) : x ∈ (zs.mergeSort fun x y => decide (x ≤ y)) ↔ x ∈ zs := (List.mergeSort_perm zs _).mem_iff

/-- In a list that rises strictly: how many are smaller than a member: its place. -/
theorem place_of {l : List Int} (hs : l.Pairwise (· < ·)) {x : Int} (hx : x ∈ l) : l.countP (· < x) < l.length ∧ l.getD (l.countP (· < x)) 0 = x := by
  induction l with
  | nil => cases hx
  | cons a r ih =>
    obtain ⟨h1, h2⟩ := List.pairwise_cons.1 hs
    by_cases e : x = a
    · subst e
      have : (x :: r).countP (· < x) = 0 := by
        rw [List.countP_eq_zero]
        intro y hy
        simp only [decide_eq_true_eq, Int.not_lt]
        rcases List.mem_cons.1 hy with rfl | hy
        · exact Int.le_refl _
        · exact Int.le_of_lt (h1 y hy)
      rw [this]
      simp
    · have hxr : x ∈ r := by
        rcases List.mem_cons.1 hx with h | h
        · exact absurd h e
        · exact h
      obtain ⟨i1, i2⟩ := ih h2 hxr
      have hax : a < x := h1 x hxr
      have : (a :: r).countP (· < x) = r.countP (· < x) + 1 := by
        rw [List.countP_cons]
        simp [hax]
      rw [this]
      exact ⟨by simpa using i1, by simpa using i2⟩

/-- How many keys lie from a on, below b. -/
def cnt (ks : List Int) (a b : Int) : Nat := ks.countP (fun s => decide (a ≤ s ∧ s < b))

theorem cnt_start (ks : List Int) (a : Int) : cnt ks a a = 0 := by
  unfold cnt
  rw [List.countP_eq_zero]
  intro s _
  simp only [decide_eq_true_eq]
  omega

theorem cnt_out {ks : List Int} {a b : Int} (h : b ∉ ks) : cnt ks a (b + 1) = cnt ks a b := by
  unfold cnt
  apply List.countP_congr
  intro s hs
  have : s ≠ b := fun e => h (e ▸ hs)
  simp only [decide_eq_true_eq]
  omega

theorem cnt_in {ks : List Int} (hn : ks.Nodup) {a b : Int} (hab : a ≤ b) (h : b ∈ ks) : cnt ks a (b + 1) = cnt ks a b + 1 := by
  induction ks with
  | nil => cases h
  | cons s r ih =>
    obtain ⟨h1, h2⟩ := List.nodup_cons.1 hn
    unfold cnt at ih ⊢
    rw [List.countP_cons, List.countP_cons]
    by_cases e : b = s
    · subst e
      have := cnt_out (a := a) h1
      unfold cnt at this
      rw [this, if_pos (by simp only [decide_eq_true_eq]; omega), if_neg (by simp only [decide_eq_true_eq]; omega)]
    · have hbr : b ∈ r := by
        rcases List.mem_cons.1 h with h | h
        · exact absurd h e
        · exact h
      rw [ih h2 hbr]
      have : decide (a ≤ s ∧ s < b + 1) = decide (a ≤ s ∧ s < b) := by
        apply decide_eq_decide.2
        omega
      rw [this]
      omega

theorem cnt_le (ks : List Int) (a b : Int) : cnt ks a b ≤ ks.length := List.countP_le_length

theorem cnt_pos {ks : List Int} {a b s : Int} (h : s ∈ ks) (h1 : a ≤ s) (h2 : s < b) : 0 < cnt ks a b := by
  unfold cnt
  rw [List.countP_pos_iff]
  exact ⟨s, h, by simp only [decide_eq_true_eq]; omega⟩

/-- How many keys lie in the blocks bs. -/
def tot (ks bs : List Int) : Nat := ks.countP (fun s => decide (s / 128 ∈ bs))

theorem tot_start (ks : List Int) : tot ks [] = 0 := by
  unfold tot
  rw [List.countP_eq_zero]
  simp

theorem tot_step {bs : List Int} {B : Int} (hB : B ∉ bs) : ∀ ks : List Int, tot ks (bs ++ [B]) = tot ks bs + cnt ks (B * 128) (B * 128 + 128)
  | [] => rfl
  | s :: r => by
    have ih := tot_step hB r
    unfold tot cnt at ih ⊢
    rw [List.countP_cons, List.countP_cons, List.countP_cons, ih]
    by_cases h1 : s / 128 ∈ bs
    · have h2 : ¬ (B * 128 ≤ s ∧ s < B * 128 + 128) := fun h => hB (by rw [show B = s / 128 by omega]; exact h1)
      rw [if_pos (by simp [h1]), if_pos (by simp [h1]), if_neg (by simpa only [decide_eq_true_eq] using h2)]
      omega
    · by_cases h2 : s / 128 = B
      · rw [if_pos (by simp [h2]), if_neg (by simpa using h1), if_pos (by simp only [decide_eq_true_eq]; omega)]; omega
      · rw [if_neg (by simp [h1, h2]), if_neg (by simpa using h1), if_neg (by simp only [decide_eq_true_eq]; omega)]; omega

theorem tot_le (ks bs : List Int) : tot ks bs ≤ ks.length := List.countP_le_length

theorem tot_all {ks bs : List Int} (h : ∀ s ∈ ks, s / 128 ∈ bs) : tot ks bs = ks.length := by
  unfold tot
  rw [List.countP_eq_length]
  intro s hs
  simpa using h s hs

theorem take_snoc' {l : List Int} {k : Nat} (h : k < l.length) : l.take (k + 1) = l.take k ++ [l.getD k 0] := by
  rw [List.take_add_one, List.getElem?_eq_getElem h]
  simp [List.getD, List.getElem?_eq_getElem h]

theorem not_in_take {l : List Int} (hs : l.Pairwise (· < ·)) {k : Nat} (hk : k < l.length) : l.getD k 0 ∉ l.take k := by
  intro hm
  obtain ⟨i, hi, e⟩ := List.getElem_of_mem hm
  have hik : i < k := by simp at hi; omega
  rw [List.getElem_take] at e
  have := (List.pairwise_iff_getElem.1 hs) i k (by omega) hk hik
  simp only [List.getD, List.getElem?_eq_getElem hk, Option.getD_some] at e
  omega

theorem rises_at {l : List Int} (hs : l.Pairwise (· < ·)) {k : Nat} (hk : k + 1 < l.length) : l.getD k 0 < l.getD (k + 1) 0 := by
  have := (List.pairwise_iff_getElem.1 hs) k (k + 1) (by omega) hk (by omega)
  simpa [List.getD, List.getElem?_eq_getElem hk, List.getElem?_eq_getElem (show k < l.length by omega)] using this

/-- What the map says at s. -/
def val (ks : List Int) (f : Int → Int) (s : Int) : Int := if s ∈ ks then f s else 0

/-- The blocks Bs and their cells Ls are those of the map ks, f. -/
structure Laid (ks : List Int) (f : Int → Int) (Bs Ls : List Int) : Prop where
  rises : Bs.Pairwise (· < ·)
  who : ∀ x, x ∈ Bs ↔ ∃ s ∈ ks, x = s / 128
  len : Ls.length = Bs.length * 128
  read : ∀ i j : Nat, i < Bs.length → j < 128 → Ls.getD (i * 128 + j) 0 = val ks f (Bs.getD i 0 * 128 + j)

/-- Some keys are laid. -/
structure Half (dn : List Int) (f : Int → Int) (Bs Ls : List Int) : Prop where
  len : Ls.length = Bs.length * 128
  read : ∀ i j : Nat, i < Bs.length → j < 128 → Ls.getD (i * 128 + j) 0 = val dn f (Bs.getD i 0 * 128 + j)

theorem Half.start (f : Int → Int) (Bs : List Int) : Half [] f Bs (List.replicate (Bs.length * 128) 0) where
  len := by simp
  read := fun i j hi hj => by rw [List.getD, List.getElem?_replicate, if_pos (by omega)]; simp [val]

theorem Half.step {dn : List Int} {f : Int → Int} {Bs Ls : List Int} (h : Half dn f Bs Ls) (hs : Bs.Pairwise (· < ·)) {s : Int} {i m : Nat} (hi : i < Bs.length) (hB : Bs.getD i 0 = s / 128) (h0 : 0 ≤ s) (hm : (m : Int) = (i : Int) * 128 + s % 128) : Half (dn ++ [s]) f Bs (Ls.set m (f s)) where
  len := by simp [h.len]
  read := fun i' j' hi' hj' => by
    have hl := h.len
    have hml : m < Ls.length := by omega
    by_cases e : i' * 128 + j' = m
    · have hii : i' = i := by omega
      subst hii
      have hss : Bs.getD i' 0 * 128 + (j' : Int) = s := by omega
      rw [hss, e]
      simp [val, List.getD, hml]
    · have hne : Bs.getD i' 0 * 128 + (j' : Int) ≠ s := by
        intro hh
        have hb : Bs.getD i' 0 = Bs.getD i 0 := by omega
        have : i' = i := by
          rcases Nat.lt_trichotomy i' i with hlt | heq | hgt
          · have := (List.pairwise_iff_getElem.1 hs) i' i hi' hi hlt
            simp only [List.getD, List.getElem?_eq_getElem hi, List.getElem?_eq_getElem hi', Option.getD_some] at hb
            omega
          · exact heq
          · have := (List.pairwise_iff_getElem.1 hs) i i' hi hi' hgt
            simp only [List.getD, List.getElem?_eq_getElem hi, List.getElem?_eq_getElem hi', Option.getD_some] at hb
            omega
        omega
      have h1 := h.read i' j' hi' hj'
      rw [show (Ls.set m (f s)).getD (i' * 128 + j') 0 = Ls.getD (i' * 128 + j') 0 by simp [List.getD, Ne.symm e], h1]
      generalize Bs.getD i' 0 * 128 + (j' : Int) = x at hne
      simp [val, hne]

theorem Half.laid {dn ks : List Int} {f : Int → Int} {Bs Ls : List Int} (h : Half dn f Bs Ls) (hs : Bs.Pairwise (· < ·)) (hw : ∀ x, x ∈ Bs ↔ ∃ s ∈ ks, x = s / 128) (hd : ∀ s, s ∈ dn ↔ s ∈ ks) : Laid ks f Bs Ls where
  rises := hs
  who := hw
  len := h.len
  read := fun i j hi hj => by
    rw [h.read i j hi hj]
    simp [val, hd]

end Go.Proofs.Qxb6601906a
