/-
  Walks: the search downward (reachable, ZZreachable).
-/
import Derived.Test.Qxb6601503aCopies
namespace Go.Proofs.Qxb6601503a
open Go.RowKit
set_option linter.unusedVariables false
attribute [local go_sem] bs_toList bs_size

theorem split_last {l : List Str} (h : 0 < l.length) : ∃ S x, l = S ++ [x] := by
  have hne : l ≠ [] := fun e => by simp [e] at h
  exact ⟨l.dropLast, l.getLast hne, (List.dropLast_concat_getLast hne).symm⟩

theorem start_stack (w : World) : Stack ((w.alloc (Obj.map #[] 0)).alloc (Obj.cells #[Value.string { data := #[] }] 9)) (w.heap.size + 1) (.slice (some ⟨w.heap.size + 1, 0, none⟩) 1 1) [[]] := by
  have := World.ownsRow_lit (base := w.heap.size + 1) (e := 9) (size := 1) (w.alloc (Obj.map #[] 0)) #[Value.string { data := #[] }] 1 (by simp) (by unfold maxLen; omega) rfl
  simp only [World.size_alloc] at this
  exact this

theorem ChMap.sizes {w : World} {mv : Value} {keys : List Str} {C : Str → List Str} (h : ChMap w mv keys C) : ∀ s ∈ keys.flatMap C, s.length ≤ maxLen := by
  intro s hs
  obtain ⟨p, hp, hsp⟩ := List.mem_flatMap.1 hs
  obtain ⟨_, h0, ⟨rfl, rfl⟩ | ⟨b, f, rfl, hm, hk, hv⟩⟩ := h
  · cases hp
  · obtain ⟨v, hfv⟩ := Option.isSome_iff_exists.1 ((hk p).1 hp)
    exact (hv p v hfv).size s hsp

set_option maxHeartbeats 1000000 in
theorem reachable_any (w : World) (mv : Value) (keys : List Str) (C : Str → List Str) (hch : ChMap w mv keys C) (F : Forest C keys) (htot : (keys.flatMap C).length ≤ 70000) :
    Calls Try.prog 13 #[mv] w fun e w' => ∃ D, e = .returned (.map (some w.heap.size)) ∧ SetAt w' w.heap.size D ∧ (∀ x, x ∈ D ↔ Climbs C x) ∧ Below w.heap.size w w' := by
  obtain ⟨i0, hi, hz0, hz1, hz2⟩ := info_parts info9
  have hmm := @run_makeMap Try.prog
  have hsz := hch.sizes
  have HSZ : Hid (∀ s ∈ keys.flatMap C, s.length ≤ maxLen) := hsz
  clear hsz
  go_enter Try.func13, Try.ntmps13
  go_wp2
  clear hmm
  go_loopg [4] ((keys.flatMap C).length + 2) (fun g v wr => ∃ done S D, g + done.length = (keys.flatMap C).length + 2 ∧ SetAt wr w.heap.size D ∧ Stack wr (w.heap.size + 1) v S ∧ Below w.heap.size w wr ∧ DOut C done S D)
  case atStart => exact ⟨[], [[]], [], rfl, (SetAt.made w).alloc _, start_stack w, ((Below.refl _ _).alloc (Nat.le_refl _) _).alloc (by simp) _, DOut.start⟩
  case round =>
    obtain ⟨done, S0, D, hg, hset, hst, hnx, hd⟩ := hrel
    have hlen := hd.len F
    obtain ⟨va, vcap, rfl⟩ := hst.form
    by_cases hpos : 0 < S0.length
    · obtain ⟨S, id, rfl⟩ := split_last hpos
      obtain ⟨g, s, rfl, hgb, hcap, HS, hcs⟩ := hst.get (k := S.length) (by simp)
      have hsid : s = id := by rw [HS.out]; simp
      subst hsid
      clear HS
      have hidl : s.length ≤ maxLen := by
        have : s ∈ [] :: D := hd.perm.mem_iff.1 (by simp)
        rcases List.mem_cons.1 this with e | e
        · rw [e]; exact Nat.zero_le _
        · exact HSZ.out s (climbs_mem F (hd.climb s e))
      obtain ⟨la, lcap, hr0, hlv0⟩ := hch.getB hidl
      have hr := hr0 wr hnx
      have hll := hlv0.le
      have hpop := hst.pop
      have hdin := hd.pop
      simp only [List.length_append, List.length_singleton] at hlen hcap
      have HR0 : Hid (∀ w', Below w.heap.size w w' → (Instr.lookup 22 mv (.string (bs s)) false).run Try.prog w' = .ok (.slice la (C s).length lcap) w') := hr0
      clear hr0 hst hd hpos
      rw [List.length_append, List.length_singleton]
      go_wp2
      clear hr hcs
      go_loopg [4, 28] ((C s).length) (fun gg v i w2 => ∃ (j : Nat) (S' D' : List Str), j ≤ (C s).length ∧ gg = (C s).length - j ∧ i = .int .i64 j ∧ SetAt w2 w.heap.size D' ∧ Stack w2 (w.heap.size + 1) v S' ∧ Below w.heap.size w w2 ∧ DIn C done s j S' D')
      case atStart => exact ⟨0, S, D, by omega, by omega, rfl, hset, hpop, hnx, hdin⟩
      case round =>
        clear hset hpop hnx hdin hlen hcap
        rename World => w2
        obtain ⟨j, S', D', hj, rfl, rfl, hset, hst, hnx, hdin⟩ := hrel
        have hlen := hdin.len F
        obtain ⟨va, vc, rfl⟩ := hst.form
        by_cases hlt : j < (C s).length
        · obtain ⟨b2, off2, c, rfl, hb2, HC, hcl, hcj0⟩ := hlv0.get hlt
          have hcj : w2.cell? ⟨b2, off2 + j, none⟩ = some (.string (bs c)) := (hnx.cell (p := ⟨b2, off2 + j, none⟩) hb2).trans hcj0
          have hfr := hdin.fresh F hlt
          have hpush := hdin.push F hlt
          rw [← HC.out] at hfr hpush
          have HFR : Hid (c ∉ D') := hfr
          have HP : Hid (DIn C done s (j + 1) (S' ++ [c]) (D' ++ [c])) := hpush
          clear hfr hpush
          go_wp2_with (at_mapUpdate; refine wpList_setAdd _ rfl _ _ _ rfl w.heap.size _ rfl hset c rfl rfl hcl HFR.out ?_)
          intro w3 hset3 hg3
          have hnx3 : Below w.heap.size w w3 := hnx.grown hg3 hnx.size (fun j hj => by cases hj; exact Nat.le_refl _)
          have hst3 := hst.kept hg3 (Nat.lt_succ_self _)
          clear hset hg3 hnx hst hcj
          go_wp2_with (at_builtin; refine wpList_append_own _ rfl _ _ 23 rfl (w.heap.size + 1) 9 i0 (.string (bs [])) 1 16 Try.underlying23 hi hz0 hz1 hz2 rfl (by decide) _ _ _ rfl (hst3.alloc _) ⟨w3.heap.size, 0, none⟩ 1 1 [.string (bs c)] rfl rfl (cell_one_new _ _ _) (by simp [Value.oneCell']) (by unfold maxLen; omega) (by omega) (by have := hset3.2.lt; simp; omega) ?_)
          intro v4 w4 hown4 hg4 _
          have hst4 := Stack.appended (n := 0) hown4
          have hset4 := (hset3.alloc _).kept hg4 (hst3.rowNe (Nat.lt_succ_self _))
          have hnx4 : Below w.heap.size w w4 := (hnx3.alloc hnx3.size _).grown hg4 (by have := hnx3.size; simp; omega) (fun k hk => Nat.le_of_succ_le (hst3.rowGe k hk))
          clear hown4 hg4 hst3 hset3 hnx3
          go_wp2
          go_roundg ((C s).length - (j + 1))
          case measure => omega
          case rel => exact ⟨j + 1, S' ++ [c], D' ++ [c], by omega, rfl, by go_num, hset4, hst4, hnx4, HP.out⟩
        · go_wp2
          go_roundg ((keys.flatMap C).length + 2 - (s :: done).length)
          case measure => simp only [List.length_cons]; omega
          case rel =>
            have e : j = (C s).length := by omega
            subst e
            exact ⟨s :: done, S', D', by simp only [List.length_cons]; omega, hset, hst, hnx, hdin.close⟩
    · have e : S0 = [] := List.eq_nil_of_length_eq_zero (by omega)
      subst e
      go_wp2
      go_ret
      have := hd.ends
      exact ⟨D, rfl, hset, this.2, hnx⟩

set_option maxHeartbeats 400000 in
theorem zzreachable_any (w : World) (mv : Value) (keys : List Str) (C : Str → List Str) (hch : ChMap w mv keys C) (F : Forest C keys) (htot : (keys.flatMap C).length ≤ 70000) :
    Calls Try.prog 10 #[mv] w fun e w' => ∃ D, e = .returned (.map (some w.heap.size)) ∧ SetAt w' w.heap.size D ∧ (∀ x, x ∈ D ↔ Climbs C x) ∧ Below w.heap.size w w' := by
  go_enter Try.func10, Try.ntmps10
  go_wp2_with fail
  refine (reachable_any w mv keys C hch F htot).mono ?_
  rintro e w' ⟨D, rfl, h1, h2, h3⟩
  go_wp2
  go_ret
  exact ⟨D, rfl, h1, h2, h3⟩

end Go.Proofs.Qxb6601503a
