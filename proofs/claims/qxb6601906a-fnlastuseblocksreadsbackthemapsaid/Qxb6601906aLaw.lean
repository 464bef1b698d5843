/-
  The law's walk (FnLastUseBlocksReadsBackTheMap).
-/
import Derived.Test.Qxb6601906aWalk6
import Derived.Deep.CutBlock
import Derived.Deep.DeepCutAuto
namespace Go.Proofs.Qxb6601906a
open Go.RowKit
set_option linter.unusedVariables false

/-- What the pair of slices says. -/
def BlocksPost (w : World) (ks : List Int) (f : Int → Int) (e : Ending) (w' : World) : Prop :=
  ∃ bv lv Bs Ls, e = .returned (.tuple #[bv, lv]) ∧ IV w' bv Bs ∧ IV w' lv Ls ∧ Laid ks f Bs Ls ∧ Below w.heap.size w w'

set_option maxHeartbeats 400000 in
theorem zz_any (w : World) (mv : Value) (ks : List Int) (f : Int → Int) (hm : MapV w mv ks f) (hk0 : ∀ s ∈ ks, 0 ≤ s) (hkl : ks.length ≤ 4096) :
    Calls Try.prog 5 #[mv] w (BlocksPost w ks f) := by
  have hcon := blocks_any w mv ks f hm hk0 hkl
  clear hk0
  go_enter Try.func5, Try.ntmps5
  go_wp2_with fail
  refine hcon.mono ?_
  rintro e w' ⟨bv, lv, Bs, Ls, rfl, h1, h2, h3, h4⟩
  go_wp2
  go_ret2
  exact ⟨_, _, Bs, Ls, rfl, h1, h2, h3, h4⟩

set_option maxHeartbeats 400000 in
theorem bytes_any (w : World) (v0 v1 : Value) (s0 s1 : List Int) (h0 : IV w v0 s0) (h1 : IV w v1 s1) :
    Calls Try.prog 4 #[v0, v1] w fun e w' => ∃ r : Bool, e = .returned (.bool r) ∧ w' = w := by
  obtain ⟨a0, c0, rfl⟩ := h0.len
  obtain ⟨a1, c1, rfl⟩ := h1.len
  have hl0 := h0.le
  have hl1 := h1.le
  go_enter Try.func4, Try.ntmps4
  go_wp2
  all_goals (go_ret; exact ⟨_, rfl, rfl⟩)

theorem run_makeMap24 (w : World) (v : Int) : (Instr.makeMap 24 (some (.int .i64 v))).run Try.prog w = .ok (.map (some w.heap.size)) (w.alloc (.map #[] 0)) := by
  simp [Instr.makeMap, run_underlying Try.underlying24, asInt, Result.andThen]
  rfl

theorem pos_step {Sl : List Int} {k : Nat} (hk : k < Sl.length) (h : ∀ s ∈ Sl.take k, 0 ≤ s) {z : Int} (hz : z = Sl.getD k 0) (h0 : 0 ≤ z) : ∀ s ∈ Sl.take (k + 1), 0 ≤ s := by
  intro s hs
  rw [take_snoc' hk] at hs
  simp only [List.mem_append, List.mem_singleton] at hs
  rcases hs with hs | rfl
  · exact h s hs
  · rw [← hz]; exact h0

/-- The map so far. -/
structure Built (Sl ks : List Int) (k : Nat) : Prop where
  pos : ∀ s ∈ ks, 0 ≤ s
  len : ks.length ≤ k

theorem Built.step {Sl ks : List Int} {k : Nat} (h : Built Sl ks k) {x : Int} (hx : 0 ≤ x) : Built Sl (putK ks x) (k + 1) where
  pos := fun s hs => by
    rcases putK_mem.1 hs with h1 | rfl
    · exact h.pos s h1
    · exact hx
  len := by have := putK_len ks x; have := h.len; omega

set_option maxRecDepth 100000 in
set_option maxHeartbeats 1000000 in
theorem law_any (w : World) (v0 v1 : Value) (Sl At : List Int) (h0 : IV w v0 Sl) (h1 : IV w v1 At) :
    Calls Try.prog 3 #[v0, v1] w fun e w' => e = .returned (.bool true) ∧ Below w.heap.size w w' := by
  have hbytes := bytes_any w v0 v1 Sl At h0 h1
  obtain ⟨a0, c0, rfl⟩ := h0.len
  obtain ⟨a1, c1, rfl⟩ := h1.len
  have hl0 := h0.le
  have hl1 := h1.le
  go_enter Try.func3, Try.ntmps3
  go_wp2_with fail
  refine hbytes.mono ?_
  rintro e w' ⟨r, rfl, hw⟩
  subst w'
  clear hbytes
  cases r with
  | false =>
    go_wp2
    go_ret
    exact ⟨rfl, Below.refl _ _⟩
  | true =>
    by_cases hs0 : 4096 < Sl.length
    · go_wp2
      go_ret
      exact ⟨rfl, Below.refl _ _⟩
    by_cases hs1 : 4096 < At.length
    · go_wp2
      go_ret
      exact ⟨rfl, Below.refl _ _⟩
    by_cases hne : Sl.length = At.length
    · have hneq : ((Sl.length : Int) != (At.length : Int)) = false := by simp [hne]
      have HNE := hide hne
      clear hne
      go_wp2
      go_loopg [5] (Sl.length) (fun g i wr => ∃ k : Nat, k ≤ Sl.length ∧ g = Sl.length - k ∧ i = .int .i64 k ∧ wr = w ∧ ∀ s ∈ Sl.take k, 0 ≤ s)
      case atStart => exact ⟨0, by omega, by omega, rfl, rfl, by simp⟩
      case round =>
        obtain ⟨k, hk, rfl, rfl, hwr, hpos⟩ := hrel
        subst wr
        have HPOS := hide hpos
        clear hpos
        by_cases hlt : k < Sl.length
        · obtain ⟨b, off, z, rfl, hb, HZ, hz1, hz2, hck⟩ := h0.get hlt
          by_cases hz : z < 0
          · go_wp2
            go_ret
            exact ⟨rfl, Below.refl _ _⟩
          · go_wp2
            go_roundg (Sl.length - (k + 1))
            case measure => omega
            case rel => exact ⟨k + 1, by omega, rfl, by go_num, rfl, pos_step hlt HPOS.out HZ.out (by omega)⟩
        · have HPOS' := hide (show ∀ s ∈ Sl, 0 ≤ s by have := HPOS.out; rwa [List.take_of_length_le (by omega)] at this)
          clear HPOS
          go_upto_if 49 with fail
          go_cut [6] (fun mv wc => ∃ (ks : List Int) (f : Int → Int), MapV wc mv ks f ∧ (∀ s ∈ ks, 0 ≤ s) ∧ ks.length ≤ 4096 ∧ Below w.heap.size w wc)
          case first =>
            have hmm := run_makeMap24
            by_cases hz : Sl.length = 0
            · go_wp2_with fail
              go_meet
              case rel => exact ⟨[], fun _ => 0, Or.inl ⟨rfl, rfl⟩, by simp, by simp, Below.refl _ _⟩
            · go_wp2_with fail
              go_loopg [7] (Sl.length) (fun g i wr => ∃ (k : Nat) (ks : List Int) (f : Int → Int), k ≤ Sl.length ∧ g = Sl.length - k ∧ i = .int .i64 k ∧ MapI wr w.heap.size ks f ∧ Built Sl ks k ∧ Below w.heap.size w wr)
              case atStart => exact ⟨0, [], fun _ => 0, by omega, by omega, rfl, MapI.made w _, ⟨by simp, by simp⟩, (Below.refl _ _).alloc (Nat.le_refl _) _⟩
              case round =>
                clear hmm
                obtain ⟨j, ks, f, hj, rfl, rfl, hmp, hbt, hnx⟩ := hrel
                have HB := hide hbt
                clear hbt
                by_cases hlt2 : j < Sl.length
                · obtain ⟨b, off, z, rfl, hb, HZ, hz1, hz2, hck0⟩ := h0.get hlt2
                  obtain ⟨b1, off1, z1, rfl, hb1, HZ1, hz11, hz12, hck10⟩ := h1.get (k := j) (by have := HNE.out; omega)
                  have hck : wr.cell? ⟨b, off + j, none⟩ = some (.int .i64 z) := (hnx.cell (p := ⟨b, off + j, none⟩) hb).trans hck0
                  have hck1 : wr.cell? ⟨b1, off1 + j, none⟩ = some (.int .i64 z1) := (hnx.cell (p := ⟨b1, off1 + j, none⟩) hb1).trans hck10
                  obtain ⟨w2, hrun, hm2, hg2⟩ := hmp.drew.store (x := z) (v := z1) ⟨hz1, hz2⟩ ⟨hz11, hz12⟩
                  have hnx2 : Below w.heap.size w w2 := hnx.drew.grown hg2 hnx.size (fun k hk => by cases hk; exact Nat.le_refl _)
                  have HM2 := hide hm2
                  have HNX2 := hide hnx2
                  have hjA : j < At.length := by have := HNE.out; omega
                  have HZP := hide (show 0 ≤ z from HPOS'.out z (by rw [HZ.out, List.getD, List.getElem?_eq_getElem hlt2]; exact List.getElem_mem hlt2))
                  clear hmp hnx hm2 hg2 hnx2 hck0 hck10
                  go_wp2
                  go_region
                  go_wp2
                  go_roundg (Sl.length - (j + 1))
                  case measure => omega
                  case rel => exact ⟨j + 1, _, _, by omega, rfl, by go_num, HM2.out, HB.out.step HZP.out, HNX2.out⟩
                · go_wp2
                  go_meet
                  case rel => exact ⟨ks, f, Or.inr ⟨_, rfl, hmp⟩, HB.out.pos, by have := HB.out.len; omega, hnx⟩
          case rest =>
            obtain ⟨ks, f, hmv, hkp, hkl, hnx⟩ := hcut
            have hzz := zz_any wc u6 ks f hmv hkp hkl
            have HKP := hide hkp
            clear hkp
            go_wp2_with fail
            refine hzz.mono ?_
            rintro e w3 ⟨bv, lv, Bs, Ls, rfl, hbv, hlv, hlaid, hb3⟩
            have hmv3 := hmv.below hb3
            have hnx3 : Below w.heap.size w w3 := hnx.trans (hb3.mono hnx.size)
            have hLl := hlaid.len
            have HLD := hide hlaid
            have HNX3 := hide hnx3
            have hlle := hlv.le
            have hneq2 : ((Ls.length : Int) != (Bs.length : Int) * 128) = false := by rw [hLl]; simp
            clear hzz hlaid hb3 hnx3 hnx hmv
            obtain ⟨ba, bc, rfl⟩ := hbv.len
            obtain ⟨la, lc, rfl⟩ := hlv.len
            go_wp2_with fail
            go_loopg [10] (Bs.length) (fun g i wr => ∃ j : Nat, j ≤ Bs.length ∧ g = Bs.length - j ∧ i = .int .i64 ((j : Int) + 1) ∧ Below w3.heap.size w3 wr)
            case atStart => exact ⟨0, by omega, by omega, rfl, Below.refl _ _⟩
            case round =>
              obtain ⟨j, hj, rfl, rfl, hnx⟩ := hrel
              by_cases hlt2 : j + 1 < Bs.length
              · have hbvr := hbv.below hnx
                obtain ⟨b, off, z, rfl, hb, HZ, hz1, hz2, hck⟩ := hbvr.get (k := j) (by omega)
                obtain ⟨b', off', z', hbb, hb', HZ', hz1', hz2', hck'⟩ := hbvr.get (k := j + 1) hlt2
                cases hbb
                have hzz : z < z' := by rw [HZ.out, HZ'.out]; exact rises_at HLD.out.rises hlt2
                clear hbvr
                go_wp2_with fail
                go_quiet (fail)
                go_wp2_with fail
                go_roundg (Bs.length - (j + 1))
                case measure => omega
                case rel => exact ⟨j + 1, by omega, rfl, by go_num, below_drewN hnx _⟩
              · have hbv4 := hbv.below hnx
                have hlv4 := hlv.below hnx
                have hmv4 := hmv3.below hnx
                have HB4 := hide (show Below w.heap.size w wr from HNX3.out.trans (hnx.mono HNX3.out.size))
                clear hbv hlv hmv3 hnx
                rename World => w4
                go_wp2_with fail
                clear hj hlt2
                go_loopg [11, 12] (Bs.length) (fun g n i wr => ∃ (j T : Nat), j ≤ Bs.length ∧ g = Bs.length - j ∧ i = .int .i64 j ∧ n = .int .i64 T ∧ T = tot ks (Bs.take j) ∧ wr = w4)
                case atStart => exact ⟨0, 0, by omega, by omega, rfl, rfl, (tot_start ks).symm, rfl⟩
                case round =>
                  obtain ⟨j, T, hj, rfl, rfl, rfl, hT, hwr⟩ := hrel
                  subst wr
                  have hTl : T ≤ 4096 := by rw [hT]; exact Nat.le_trans (tot_le _ _) hkl
                  have HT := hide hT
                  clear hT
                  by_cases hlt2 : j < Bs.length
                  · obtain ⟨b, off, B, rfl, hb, HB, hB1, hB2, hck⟩ := hbv4.get hlt2
                    obtain ⟨s, hsk, hsB⟩ := (HLD.out.who B).1 (by rw [HB.out, List.getD, List.getElem?_eq_getElem hlt2]; exact List.getElem_mem hlt2)
                    have hs0 := HKP.out s hsk
                    have hsf := ((hmv4.fits s hsk).1).2
                    have hB0 : 0 ≤ B := by omega
                    have hBm : B ≤ 72057594037927935 := by omega
                    have HP := hide (show 0 < cnt ks (B * 128) (B * 128 + 128) from cnt_pos hsk (by omega) (by omega))
                    clear hB1 hB2 hsk hsB hs0 hsf
                    go_wp2_with fail
                    go_loopg [14, 15] (128) (fun g h i wr => ∃ (i' H : Nat), i' ≤ 128 ∧ g = 128 - i' ∧ i = .int .i64 i' ∧ h = .int .i64 H ∧ H = cnt ks (B * 128) (B * 128 + i') ∧ wr = w4)
                    case atStart => exact ⟨0, 0, by omega, by omega, rfl, rfl, by simp [cnt_start], rfl⟩
                    case round =>
                      obtain ⟨i, H, hi, rfl, rfl, rfl, hH, hwr⟩ := hrel
                      subst wr
                      have hHl : H ≤ 4096 := by rw [hH]; exact Nat.le_trans (cnt_le _ _ _) hkl
                      have HH := hide hH
                      clear hH
                      by_cases hlt3 : i < 128
                      · have hlk := hmv4.lookOk (x := B * 128 + (i : Int)) ⟨by omega, by omega⟩
                        obtain ⟨m, hidx⟩ := Int.eq_ofNat_of_zero_le (show 0 ≤ (j : Int) * 128 + (i : Int) by omega)
                        have hml : m < Ls.length := by omega
                        obtain ⟨lb, loff, y, rfl, _, HY, _, _, hcy⟩ := hlv4.get hml
                        have hyv : (y != val ks f (B * 128 + (i : Int))) = false := by
                          have h2 := HLD.out.read j i hlt2 hlt3
                          rw [← HB.out, show j * 128 + i = m by omega, ← HY.out] at h2
                          rw [h2]
                          simp
                        generalize val ks f (B * 128 + (i : Int)) = vv at hlk hyv
                        by_cases hin : B * 128 + (i : Int) ∈ ks
                        · have hd := decide_eq_true hin
                          rw [hd] at hlk
                          have HH1 := hide (show H + 1 = cnt ks (B * 128) (B * 128 + ((i + 1 : Nat) : Int)) by
                            rw [show B * 128 + ((i + 1 : Nat) : Int) = (B * 128 + (i : Int)) + 1 by omega, cnt_in hmv4.nodup (by omega) hin, HH.out])
                          clear hd hin
                          go_wp2_with fail
                          go_roundg (128 - (i + 1))
                          case measure => omega
                          case rel => exact ⟨i + 1, H + 1, by omega, rfl, by go_num, by go_num, HH1.out, rfl⟩
                        · have hd := decide_eq_false hin
                          rw [hd] at hlk
                          have HH1 := hide (show H = cnt ks (B * 128) (B * 128 + ((i + 1 : Nat) : Int)) by
                            rw [show B * 128 + ((i + 1 : Nat) : Int) = (B * 128 + (i : Int)) + 1 by omega, cnt_out hin, HH.out])
                          clear hd hin
                          go_wp2_with fail
                          go_roundg (128 - (i + 1))
                          case measure => omega
                          case rel => exact ⟨i + 1, H, by omega, rfl, by go_num, rfl, HH1.out, rfl⟩
                      · have hi' : i = 128 := by omega
                        subst hi'
                        have hHp : 0 < H := by rw [HH.out]; exact HP.out
                        have hH0 : ((H : Int) == 0) = false := by
                          rw [beq_eq_false_iff_ne]
                          omega
                        have HT1 := hide (show T + H = tot ks (Bs.take (j + 1)) by
                          rw [take_snoc' hlt2, tot_step (not_in_take HLD.out.rises hlt2), HT.out, HH.out, ← HB.out]
                          rfl)
                        go_wp2_with fail
                        go_roundg (Bs.length - (j + 1))
                        case measure => omega
                        case rel => exact ⟨j + 1, T + H, by omega, rfl, by go_num, by go_num, HT1.out, rfl⟩
                  · have hln := fun ty => hmv4.length ty
                    have hTk : ((T : Int) == (ks.length : Int)) = true := by
                      rw [HT.out, List.take_of_length_le (by omega), tot_all (fun s hs => (HLD.out.who _).2 ⟨s, hs, rfl⟩)]
                      simp
                    go_wp2_with fail
                    go_ret
                    exact ⟨rfl, HB4.out⟩
    · have hneq : ((Sl.length : Int) != (At.length : Int)) = true := by rw [bne_iff_ne]; omega
      clear hne
      go_wp2
      go_ret
      exact ⟨rfl, Below.refl _ _⟩

end Go.Proofs.Qxb6601906a
