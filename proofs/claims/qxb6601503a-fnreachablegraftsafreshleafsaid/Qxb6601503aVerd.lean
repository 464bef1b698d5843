/-
  Walks: the climb upward (reachVerdicts).
-/
import Derived.Test.Qxb6601503aReach
import Derived.Deep.CutBlock
import Derived.Deep.DeepCutAuto
namespace Go.Proofs.Qxb6601503a
open Go.RowKit
set_option linter.unusedVariables false
attribute [local go_sem] bs_toList bs_size

/-- The map of parents, of the children L. -/
def PF (C : Str → List Str) (pf : Str → Option Value) (L : List Str) : Prop :=
  (∀ x ∈ L, ∃ p, pf x = some (.string (bs p)) ∧ x ∈ C p ∧ p.length ≤ maxLen) ∧ ∀ x, x ∉ L → pf x = none

theorem PF.start (C : Str → List Str) : PF C (fun _ => none) [] := ⟨by simp, by simp⟩

theorem PF.step {C : Str → List Str} {pf : Str → Option Value} {L : List Str} (h : PF C pf L) {c s : Str} (hc : c ∈ C s) (hs : s.length ≤ maxLen) : PF C (fun x => if x = c then some (.string (bs s)) else pf x) (L ++ [c]) := by
  refine ⟨fun x hx => ?_, fun x hx => ?_⟩
  · by_cases e : x = c
    · subst e
      exact ⟨s, by simp, hc, hs⟩
    · simp only [e, if_false]
      simp only [List.mem_append, List.mem_singleton] at hx
      exact h.1 x (hx.resolve_right e)
  · simp only [List.mem_append, List.mem_singleton, not_or] at hx
    simp only [hx.2, if_false]
    exact h.2 x hx.1

theorem hide {p : Prop} (h : p) : Hid p := h

theorem MapAt.drew {w : World} {b n : Nat} {f : Str → Option Value} (h : MapAt w b f n) : MapAt w.drew b f n := h
theorem Stack.drew {w : World} {base : Nat} {v : Value} {ss : List Str} (h : Stack w base v ss) : Stack w.drew base v ss := h

theorem wpList_zero (w : World) {ops : Array Oper} {rest : List Oper} {o : Oper} {a : Act} {Q : Exit → Act → World → Prop}
    (hg : o.guard = none) (x : Operand) (hop : o.op = Op.slice 23 x none (some (.const (.int .i64 0))) none) (base : Nat) (v : Value) (ss : List Str) (hx : a.eval x = v) (h : Stack w base v ss)
    (hK : ∀ v', Stack w base v' [] → wpList Try.prog ops Q rest (a.put o.dst v') w) :
    wpList Try.prog ops Q (o :: rest) a w := by
  refine wpList_plain hg fun K' hK' => ?_
  have hf : ∃ v', (Instr.sliceAt 23 v none (some (.int .i64 0)) none).run Try.prog w = .ok v' w ∧ Stack w base v' [] := by
    rcases h.2 with ⟨rfl, h1⟩ | ⟨g, cap', cur, rfl, hb, hh, hn, hm, hs, _⟩
    · refine ⟨.slice none 0 0, ?_, Stack.nil _ _⟩
      kernel_rfl
    · refine ⟨.slice (some ⟨g, 0, none⟩) 0 cap', ?_, h.zero⟩
      simp [go_sem]
  obtain ⟨v', hrun, hst⟩ := hf
  have hc : a.eval (.const (.int .i64 0)) = .int .i64 0 := rfl
  unfold Oper.wp
  simp [execOp, hop, hx, hc, hrun, Result.andThen]
  exact hK' _ _ (hK v' hst)

theorem Stack.sv {w : World} {base : Nat} {v : Value} {ss : List Str} (h : Stack w base v ss) (hs : ∀ s ∈ ss, s.length ≤ maxLen) : SV w v ss := by
  obtain ⟨a, cap, rfl⟩ := h.form
  rcases h.2 with ⟨h0, h1⟩ | ⟨g, cap', cur, hv, _, _, hn, hm, _⟩
  · have : ss = [] := List.eq_nil_of_length_eq_zero h1
    subst this
    rw [h0]
    exact SV.nil w
  · simp only [Value.slice.injEq] at hv
    obtain ⟨rfl, _, rfl⟩ := hv
    refine ⟨_, _, rfl, (fun e => by cases e), hn, hm, hs, fun j hj => ?_⟩
    obtain ⟨g', s, e, _, _, HS, hc⟩ := h.get hj
    exact ⟨g', 0, e, by rw [Nat.zero_add, hc, HS.out]⟩

/-! ### the states, in memory -/
def iv8 (st : Str → Option Int) : Str → Option Value := fun s => (st s).map (Value.int .i8)
def mark (st : Str → Option Int) (pa : List Str) : Str → Option Int := fun y => if y ∈ pa then some 3 else st y
def half (st : Str → Option Int) (pa : List Str) (v : Int) (m : Nat) : Str → Option Int := fun y => if y ∈ pa.take m then some v else mark st pa y
def settled (st : Str → Option Int) (pa : List Str) (v : Int) : Str → Option Int := fun y => if y ∈ pa then some v else st y

theorem mark_nil (st : Str → Option Int) : mark st [] = st := by funext y; simp [mark]

theorem mark_step (st : Str → Option Int) (pa : List Str) (x y : Str) : upd (iv8 (mark st pa)) x (.int .i8 3) y = iv8 (mark st (pa ++ [x])) y := by
  by_cases e : y = x
  · subst e; simp [upd, iv8, mark]
  · simp [upd, iv8, mark, e]

theorem half_zero (st : Str → Option Int) (pa : List Str) (v : Int) : half st pa v 0 = mark st pa := by funext y; simp [half]

theorem half_step (st : Str → Option Int) (pa : List Str) (v : Int) {m : Nat} (hm : m < pa.length) {c : Str} (hc : c = pa[m]) (y : Str) : upd (iv8 (half st pa v m)) c (.int .i8 v) y = iv8 (half st pa v (m + 1)) y := by
  have ht : (y ∈ pa.take (m + 1)) ↔ (y ∈ pa.take m ∨ y = c) := by rw [take_snoc hm, ← hc]; simp
  unfold upd iv8 half
  by_cases e : y = c
  · rw [if_pos e, if_pos (ht.2 (Or.inr e))]; rfl
  · rw [if_neg e]
    by_cases h : y ∈ pa.take m
    · rw [if_pos h, if_pos (ht.2 (Or.inl h))]
    · rw [if_neg h, if_neg (fun h' => (ht.1 h').elim h e)]

theorem half_full (st : Str → Option Int) (pa : List Str) (v : Int) {m : Nat} (hm : pa.length ≤ m) (y : Str) : iv8 (half st pa v m) y = iv8 (settled st pa v) y := by
  unfold iv8 half settled mark
  rw [List.take_of_length_le hm]
  by_cases h : y ∈ pa <;> simp [h]

theorem settled_some {st : Str → Option Int} {pa : List Str} {v : Int} {y : Str} (h : y ∈ pa ∨ st y ≠ none) : settled st pa v y ≠ none := by
  unfold settled
  by_cases e : y ∈ pa
  · simp [e]
  · simp only [e, if_false]
    exact h.resolve_left e

/-- What holds between two climbs. -/
structure VOut (C : Str → List Str) (all : List Str) (k : Nat) (st : Str → Option Int) : Prop where
  inv : SInv C all st
  past : ∀ i (h : i < all.length), i < k → st all[i] ≠ none

theorem VOut.step {C : Str → List Str} {all pa : List Str} {k : Nat} {st : Str → Option Int} {v : Int} {o : Str} (h : VOut C all k st) (hk : k < all.length) (ho : o = all[k]) (hsub : ∀ c ∈ pa, c ∈ all) (hv : Verd C pa v) (hp : o ∈ pa ∨ st o ≠ none) : VOut C all (k + 1) (settled st pa v) := by
  refine ⟨h.inv.settle hsub hv, fun i hi hlt => ?_⟩
  by_cases e : i = k
  · subst e
    rw [← ho]
    exact settled_some hp
  · exact settled_some (Or.inr (h.past i hi (by omega)))

/-- What a climb has found. -/
structure VMet (C : Str → List Str) (all pa : List Str) (st : Str → Option Int) (v : Int) (o : Str) : Prop where
  sub : ∀ c ∈ pa, c ∈ all
  verd : Verd C pa v
  past : o ∈ pa ∨ st o ≠ none

set_option maxHeartbeats 2000000 in
theorem verdicts_any (w : World) (mv iv : Value) (keys ids : List Str) (C : Str → List Str) (hids : SV w iv ids) (hch : ChMap w mv keys C) (F : Forest C ids) (hkeys : ∀ s ∈ ids.flatMap C, s.length ≤ maxLen) (htot : (ids.flatMap C).length ≤ 65536) (hsm : ids.length ≤ 65536) :
    Calls Try.prog 11 #[mv, iv] w fun e w' => ∃ b f n, e = .returned (.map (some b)) ∧ MapAt w' b f n ∧ (∀ c ∈ ids.flatMap C, (Climbs C c ∧ f c = some (.int .i8 1)) ∨ (¬ Climbs C c ∧ f c = some (.int .i8 2))) ∧ Below w.heap.size w w' := by
  obtain ⟨i0, hi, hz0, hz1, hz2⟩ := info_parts info9
  have HSZ : Hid (∀ s ∈ ids.flatMap C, s.length ≤ maxLen) := hkeys
  clear hkeys
  have hmm := @run_makeMap Try.prog
  obtain ⟨ia, icap, rfl⟩ := hids.len
  go_enter Try.func11, Try.ntmps11
  go_upto_block 0 with fail
  clear hmm
  go_cut [6] (fun v wr => ∃ pf n, MapAt wr w.heap.size pf n ∧ PF C pf (ids.flatMap C) ∧ Stack wr (w.heap.size + 1) v (ids.flatMap C) ∧ Below w.heap.size w wr)
  case first =>
    go_wp2_with fail
    go_loopg [6, 7] (ids.length) (fun g v i wr => ∃ (k n : Nat) (pf : Str → Option Value), k ≤ ids.length ∧ g = ids.length - k ∧ i = .int .i64 k ∧ MapAt wr w.heap.size pf n ∧ PF C pf ((ids.take k).flatMap C) ∧ Stack wr (w.heap.size + 1) v ((ids.take k).flatMap C) ∧ Below w.heap.size w wr)
    case atStart => exact ⟨0, _, _, by omega, by omega, rfl, MapAt.made w, PF.start C, Stack.nil _ _, (Below.refl _ _).alloc (Nat.le_refl _) _⟩
    case round =>
      obtain ⟨k, n, pf, hk, rfl, rfl, hmap, hpf, hst, hnx⟩ := hrel
      have HPF : Hid (PF C pf ((ids.take k).flatMap C)) := hpf
      clear hpf
      obtain ⟨va, vcap, rfl⟩ := hst.form
      by_cases hlt : k < ids.length
      · obtain ⟨b, off, s, rfl, hb, HS, hsl, hck0⟩ := hids.get hlt
        have hck : wr.cell? ⟨b, off + k, none⟩ = some (.string (bs s)) := (hnx.cell (p := ⟨b, off + k, none⟩) hb).trans hck0
        obtain ⟨la, lcap, hr0, hlv0⟩ := hch.getB hsl
        have hr := hr0 wr hnx
        have hll := hlv0.le
        clear hr0
        go_wp2
        clear hr hck
        go_loopg [6, 9] ((C s).length) (fun g v i wr' => ∃ (j n : Nat) (pf : Str → Option Value), j ≤ (C s).length ∧ g = (C s).length - j ∧ i = .int .i64 j ∧ MapAt wr' w.heap.size pf n ∧ PF C pf ((ids.take k).flatMap C ++ (C s).take j) ∧ Stack wr' (w.heap.size + 1) v ((ids.take k).flatMap C ++ (C s).take j) ∧ Below w.heap.size w wr')
        case atStart => exact ⟨0, n, pf, by omega, by omega, rfl, hmap, by simpa using HPF.out, by simpa using hst, hnx⟩
        case round =>
          clear hmap hst hnx HPF
          rename World => w2
          obtain ⟨j, n, pf, hj, rfl, rfl, hmap, hpf, hst, hnx⟩ := hrel
          obtain ⟨va, vcap, rfl⟩ := hst.form
          by_cases hlt2 : j < (C s).length
          · obtain ⟨b2, off2, c, rfl, hb2, HC, hcl, hcj0⟩ := hlv0.get hlt2
            have hbound : ((ids.take k).flatMap C ++ (C s).take j).length < 65536 := by
              have h1 : ((ids.take (k + 1)).flatMap C).length ≤ (ids.flatMap C).length := by
                conv => rhs; rw [← List.take_append_drop (k + 1) ids, List.flatMap_append, List.length_append]
                omega
              rw [flat_step hlt HS.out, List.length_append] at h1
              rw [List.length_append, List.length_take]
              omega
            have hck : w2.cell? ⟨b, off + k, none⟩ = some (.string (bs s)) := (hnx.cell (p := ⟨b, off + k, none⟩) hb).trans hck0
            have hcj : w2.cell? ⟨b2, off2 + j, none⟩ = some (.string (bs c)) := (hnx.cell (p := ⟨b2, off2 + j, none⟩) hb2).trans hcj0
            obtain ⟨w3, hrun, hm3, hg3⟩ := hmap.drew.store Try.underlying36 hcl (.string (bs s))
            have hpf3 := hpf.step (c := c) (s := s) (by rw [HC.out]; exact List.getElem_mem hlt2) hsl
            rw [List.append_assoc, HC.out, ← take_snoc hlt2, ← HC.out] at hpf3
            have HPF3 := hide hpf3
            have HM3 := hide hm3
            have hnx3 : Below w.heap.size w w3 := hnx.drew.grown hg3 hnx.size (fun j hj => by cases hj; exact Nat.le_refl _)
            have hst3 := hst.drew.kept hg3 (Nat.lt_succ_self _)
            have HST3 := hide hst3
            have HNX3 := hide hnx3
            clear hm3 hg3 hpf hpf3 hst hnx hmap hst3 hnx3
            generalize hLL : (ids.take k).flatMap C ++ (C s).take j = LL at *
            have HLL := hide hLL
            clear hLL
            go_wp2
            go_region
            have hnx3 := HNX3.out
            have hst3 := HST3.out
            have hcj3 : w3.cell? ⟨b2, off2 + j, none⟩ = some (.string (bs c)) := (hnx3.cell (p := ⟨b2, off2 + j, none⟩) hb2).trans hcj0
            have hBlt := HM3.out.lt
            clear hrun hck hcj HST3 HNX3
            go_wp2_with (at_builtin; refine wpList_append_own _ rfl _ _ 23 rfl (w.heap.size + 1) 9 i0 (.string (bs [])) 1 16 Try.underlying23 hi hz0 hz1 hz2 rfl (by decide) _ _ _ rfl (hst3.alloc _) ⟨w3.heap.size, 0, none⟩ 1 1 [.string (bs c)] rfl rfl (cell_one_new _ _ _) (by simp [Value.oneCell']) (by unfold maxLen; omega) (by omega) (by simp; omega) ?_)
            intro v4 w4 hown4 hg4 _
            have hst4 := Stack.appended (n := 0) hown4
            have hm4 := (HM3.out.alloc _).kept hg4 (hst3.rowNe (Nat.lt_succ_self _))
            have hnx4 : Below w.heap.size w w4 := (hnx3.alloc hnx3.size _).grown hg4 (by have := hnx3.size; simp; omega) (fun k hk => Nat.le_of_succ_le (hst3.rowGe k hk))
            rw [← HLL.out, List.append_assoc, HC.out, ← take_snoc hlt2] at hst4
            have HM4 := hide hm4
            clear hown4 hg4 hst3 hnx3 HM3 hm4 hcj3
            go_wp2
            go_roundg ((C s).length - (j + 1))
            case measure => omega
            case rel => exact ⟨j + 1, _, _, by omega, rfl, by go_num, HM4.out, HPF3.out, hst4, hnx4⟩
          · have e := List.take_of_length_le (l := C s) (i := j) (by omega)
            rw [e, ← flat_step hlt HS.out] at hpf hst
            rw [e, ← flat_step hlt HS.out]
            have HPF := hide hpf
            clear hpf
            go_wp2
            go_roundg (ids.length - (k + 1))
            case measure => omega
            case rel => exact ⟨k + 1, n, pf, by omega, rfl, by go_num, hmap, HPF.out, hst, hnx⟩
      · have e := List.take_of_length_le (l := ids) (i := k) (by omega)
        have hpf := HPF.out
        rw [e] at hpf hst
        rw [e]
        have HPF' := hide hpf
        clear hpf HPF
        go_wp2
        go_meet
        case rel => exact ⟨pf, n, hmap, HPF'.out, hst, hnx⟩
  case rest =>
    obtain ⟨pf, n, hmap, hpf, hst, hnx⟩ := hcut
    have HPF := hide hpf
    clear hpf hids hch
    have hosv := hst.sv HSZ.out
    obtain ⟨oa, ocap, rfl⟩ := hst.form
    clear hst
    generalize hALL : ids.flatMap C = all at *
    have HALL := hide hALL
    clear hALL
    have hmm := @run_makeMap Try.prog
    go_wp2_with fail
    clear hmm
    go_loopg [11, 12] (all.length) (fun g v i wr => ∃ (k n : Nat) (st : Str → Option Int) (pa : List Str), k ≤ all.length ∧ g = all.length - k ∧ i = .int .i64 k ∧ MapAt wr wc.heap.size (iv8 st) n ∧ VOut C all k st ∧ Stack wr (wc.heap.size + 1) v pa ∧ Below wc.heap.size wc wr)
    case atStart =>
      exact ⟨0, 0, fun _ => none, [], by omega, by omega, rfl, (MapAt.made wc).ext (by simp [iv8]), ⟨(fun x v h => by cases h), (fun i _ h => by omega)⟩, Stack.nil _ _, (Below.refl _ _).alloc (Nat.le_refl _) _⟩
    case round =>
      obtain ⟨k, n2, st, pa0, hk, rfl, rfl, hsm2, hvo, hst, hnx2⟩ := hrel
      by_cases hlt : k < all.length
      · obtain ⟨b, off, o, rfl, hb, HO, hol, hck0⟩ := hosv.get hlt
        have hck : wr.cell? ⟨b, off + k, none⟩ = some (.string (bs o)) := (hnx2.cell (p := ⟨b, off + k, none⟩) hb).trans hck0
        have hoall : o ∈ all := by rw [HO.out]; exact List.getElem_mem hlt
        have hone : o ≠ [] := fun e => F.top (by rw [HALL.out, ← e]; exact hoall)
        go_upto_block 6 with (refine wpList_zero _ rfl _ rfl _ _ _ rfl hst ?_)
        intro v0 hst0
        clear hst
        go_upto_block 6 with fail
        clear hck
        go_cut [11, 14] (fun v u wr' => ∃ (n : Nat) (pa : List Str) (vd : Int), u = .int .i8 vd ∧ MapAt wr' wc.heap.size (iv8 (mark st pa)) n ∧ Stack wr' (wc.heap.size + 1) v pa ∧ VMet C all pa st vd o ∧ Below wc.heap.size wc wr')
        case first =>
          go_wp2_with fail
          go_loopg [11, 13] (all.length + 1) (fun g v xv wr' => ∃ (n : Nat) (pa : List Str) (x : Str), g + pa.length = all.length + 1 ∧ xv = .string (bs x) ∧ x.length ≤ maxLen ∧ MapAt wr' wc.heap.size (iv8 (mark st pa)) n ∧ Stack wr' (wc.heap.size + 1) v pa ∧ PInv C all st pa x o ∧ Below wc.heap.size wc wr')
          case atStart => exact ⟨n2, [], o, rfl, rfl, hol, by rw [mark_nil]; exact hsm2, hst0, PInv.start hone, hnx2⟩
          case round =>
            clear hsm2 hst0 hnx2
            rename World => w2
            obtain ⟨n3, pa, x, hg, rfl, hxl, hmp, hst, hpi, hnx2⟩ := hrel
            have hlen := hpi.len
            have hr := hmp.look Try.underlying30 (zero32 _) hxl
            by_cases hxp : x ∈ pa
            · have e : (iv8 (mark st pa) x).getD (.int .i8 0) = .int .i8 3 := by simp [iv8, mark, hxp]
              rw [e] at hr
              have hcy := hpi.cycle hxp
              have HV := hide (show VMet C all pa st 2 o from ⟨hpi.sub, hcy.1, Or.inl hcy.2⟩)
              clear hcy hpi hxp e
              go_wp2
              go_meet
              case rel => exact ⟨n3, pa, 2, rfl, hmp, hst, HV.out, hnx2⟩
            · have e0 : iv8 (mark st pa) x = iv8 st x := by simp [iv8, mark, hxp]
              rw [e0] at hr
              cases hs : st x with
              | some u =>
                have hu : u = 1 ∨ u = 2 := by
                  rcases (hvo.inv x u hs).2 with ⟨h, _⟩ | ⟨h, _⟩
                  · exact Or.inl h
                  · exact Or.inr h
                have e : (iv8 st x).getD (.int .i8 0) = .int .i8 u := by simp [iv8, hs]
                rw [e] at hr
                have hkn := hpi.known hvo.inv hs
                have HV := hide (show VMet C all pa st u o from ⟨hpi.sub, hkn.1, hkn.2⟩)
                have h3 : (u == 3) = false := by rcases hu with rfl | rfl <;> rfl
                have h4 : (u != 0) = true := by rcases hu with rfl | rfl <;> rfl
                clear hkn hpi hxp e e0 hs hu
                go_wp2
                go_meet
                case rel => exact ⟨n3, pa, u, rfl, hmp, hst, HV.out, hnx2⟩
              | none =>
                have e : (iv8 st x).getD (.int .i8 0) = .int .i8 0 := by simp [iv8, hs]
                rw [e] at hr
                have hmap2 := hmap.below hnx2 hmap.lt
                have hr2 := hmap2.lookOk Try.underlying36 (zero9 _) hxl
                by_cases hxa : x ∈ all
                · obtain ⟨p, hp1, hp2, hpl⟩ := HPF.out.1 x hxa
                  rw [hp1] at hr2
                  simp only [Option.getD_some, Option.isSome_some] at hr2
                  have HP := hide hp2
                  have HX := hide hxp
                  have HS := hide hs
                  have HPI := hide hpi
                  clear hp1 hp2 hxp hs hpi e e0 hmap2
                  go_wp2_with (at_mapUpdate; refine wpList_mapStore _ rfl _ _ _ 30 rfl 32 Try.underlying30 wc.heap.size _ _ rfl hmp x _ rfl rfl hxl ?_)
                  intro w3 n4 hm3 hg3
                  have hnx3 : Below wc.heap.size wc w3 := hnx2.grown hg3 hnx2.size (fun j hj => by cases hj; exact Nat.le_refl _)
                  have hst3 := hst.kept hg3 (Nat.lt_succ_self _)
                  obtain ⟨va, vcap, rfl⟩ := hst.form
                  have hm3' := hm3.ext (mark_step st pa x)
                  have hBlt := hm3'.lt
                  have HM3 := hide hm3'
                  clear hr hr2 hmp hst hnx2 hg3 hm3 hm3'
                  go_wp2_with (at_builtin; refine wpList_append_own _ rfl _ _ 23 rfl (wc.heap.size + 1) 9 i0 (.string (bs [])) 1 16 Try.underlying23 hi hz0 hz1 hz2 rfl (by decide) _ _ _ rfl (hst3.alloc _) ⟨w3.heap.size, 0, none⟩ 1 1 [.string (bs x)] rfl rfl (cell_one_new _ _ _) (by simp [Value.oneCell']) (by unfold maxLen; omega) (by omega) (by simp; omega) ?_)
                  intro v4 w4 hown4 hg4 _
                  have hst4 := Stack.appended (n := 0) hown4
                  have HM4 := hide ((HM3.out.alloc _).kept hg4 (hst3.rowNe (Nat.lt_succ_self _)))
                  have hnx4 : Below wc.heap.size wc w4 := (hnx3.alloc hnx3.size _).grown hg4 (by have := hnx3.size; simp; omega) (fun k hk => Nat.le_of_succ_le (hst3.rowGe k hk))
                  clear hown4 hg4 hst3 hnx3 HM3
                  by_cases hpe : p = []
                  · have hb1 : p.isEmpty = true := by simp [hpe]
                    have htp := PInv.top F (by rw [HALL.out]; exact HPI.out) (by rw [← hpe]; exact HP.out)
                    have HV := hide (show VMet C all (pa ++ [x]) st 1 o from ⟨(fun c hc => by
                      simp only [List.mem_append, List.mem_singleton] at hc
                      rcases hc with hc | rfl
                      · exact HPI.out.sub c hc
                      · exact hxa), htp.1, Or.inl htp.2⟩)
                    clear htp hpe
                    go_wp2
                    go_meet
                    case rel => exact ⟨n4, pa ++ [x], 1, rfl, HM4.out, hst4, HV.out, hnx4⟩
                  · have hb1 : p.isEmpty = false := by simp [hpe]
                    have HP2 := hide (PInv.step F (by rw [HALL.out]; exact HPI.out) HX.out HS.out HP.out hpe)
                    clear hpe
                    go_wp2
                    go_roundg (all.length + 1 - (pa.length + 1))
                    case measure => omega
                    case rel => exact ⟨n4, pa ++ [x], p, by simp only [List.length_append, List.length_singleton]; have := HP2.out.len; simp only [List.length_append, List.length_singleton, HALL.out] at this; omega, rfl, hpl, HM4.out, hst4, by have := HP2.out; rwa [HALL.out] at this, hnx4⟩
                · rw [HPF.out.2 x hxa] at hr2
                  simp only [Option.getD_none, Option.isSome_none] at hr2
                  have hlo := PInv.lost F (by rw [HALL.out]; exact hpi) (by rw [HALL.out]; exact hoall) (by rw [HALL.out]; exact hxa)
                  have HV := hide (show VMet C all pa st 2 o from ⟨hpi.sub, hlo.1, Or.inl hlo.2⟩)
                  clear hlo hpi hxp e e0 hs hxa hmap2
                  go_wp2
                  go_meet
                  case rel => exact ⟨n3, pa, 2, rfl, hmp, hst, HV.out, hnx2⟩
        case rest =>
          clear hsm2 hst0 hnx2
          rename World => w2
          obtain ⟨n3, pa, vd, rfl, hmp, hst, hvm, hnx2⟩ := hcut
          have hplen : pa.length ≤ 9223372036854775807 := by
            obtain ⟨va, vcap, rfl⟩ := hst.form
            rcases hst.2 with ⟨_, h0⟩ | ⟨g, cap', cur, hv, _, _, hn, hm, _⟩
            · omega
            · exact Nat.le_trans hn hm
          obtain ⟨va, vcap, rfl⟩ := hst.form
          go_wp2_with fail
          go_loopg [18] (pa.length) (fun g i wr' => ∃ (m n : Nat), m ≤ pa.length ∧ g = pa.length - m ∧ i = .int .i64 m ∧ MapAt wr' wc.heap.size (iv8 (half st pa vd m)) n ∧ Stack wr' (wc.heap.size + 1) (.slice va pa.length vcap) pa ∧ Below wc.heap.size wc wr')
          case atStart => exact ⟨0, n3, by omega, by omega, rfl, by rw [half_zero]; exact hmp, hst, hnx2⟩
          case round =>
            clear hmp hst hnx2
            rename World => w3
            obtain ⟨m, n4, hm, rfl, rfl, hmp, hst, hnx2⟩ := hrel
            by_cases hlt2 : m < pa.length
            · obtain ⟨g, c, rfl, hgb, hcap, HC, hcm⟩ := hst.get hlt2
              have hcl : c.length ≤ maxLen := HSZ.out c (hvm.sub c (by rw [HC.out]; exact List.getElem_mem hlt2))
              go_wp2_with (at_mapUpdate; refine wpList_mapStore _ rfl _ _ _ 30 rfl 32 Try.underlying30 wc.heap.size _ _ rfl hmp c _ rfl rfl hcl ?_)
              intro w4 n5 hm4 hg4
              have hnx4 : Below wc.heap.size wc w4 := hnx2.grown hg4 hnx2.size (fun j hj => by cases hj; exact Nat.le_refl _)
              have hst4 := hst.kept hg4 (Nat.lt_succ_self _)
              have HM4 := hide (hm4.ext (half_step st pa vd hlt2 HC.out))
              clear hmp hst hnx2 hg4 hm4 hcm
              go_wp2
              go_roundg (pa.length - (m + 1))
              case measure => omega
              case rel => exact ⟨m + 1, n5, by omega, rfl, by go_num, HM4.out, hst4, hnx4⟩
            · have HM4 := hide (hmp.ext (half_full st pa vd (m := m) (by omega)))
              have HVO := hide (hvo.step hlt HO.out hvm.sub hvm.verd hvm.past)
              clear hmp
              go_wp2
              go_roundg (all.length - (k + 1))
              case measure => omega
              case rel => exact ⟨k + 1, n4, settled st pa vd, pa, by omega, rfl, by go_num, HM4.out, HVO.out, hst, hnx2⟩
      · go_wp2
        go_ret
        have hall : ∀ c ∈ all, st c ≠ none := fun c hc => by
          obtain ⟨i, hi, e⟩ := List.getElem_of_mem hc
          rw [← e]
          exact hvo.past i hi (by omega)
        refine ⟨_, iv8 st, n2, rfl, hsm2, fun c hc => ?_, hnx.trans (hnx2.mono hnx.size)⟩
        rw [HALL.out] at hc
        rcases hvo.inv.ends hall c hc with ⟨h1, h2⟩ | ⟨h1, h2⟩
        · exact Or.inl ⟨h1, by simp [iv8, h2]⟩
        · exact Or.inr ⟨h1, by simp [iv8, h2]⟩
end Go.Proofs.Qxb6601503a
