/-
  The walk of FnReachableGraftsAFreshLeaf, out of the contracts.
-/
import Derived.Test.Qxb6601503aLaw1
import Derived.BigQuiet
import Derived.Deep.QuietTactic
namespace Go.Proofs.Qxb6601503a
open Go.RowKit
set_option linter.unusedVariables false
attribute [local go_sem] bs_toList bs_size

/-- The old list with the leaf behind it, as the copy fills it. -/
theorem graft_at {old : List Str} {leaf : Str} {k : Nat} (hk : k < old.length) {c : Str} (hc : c = old[k]) : (part (old ++ [leaf]) k).set k (.string (bs c)) = part (old ++ [leaf]) (k + 1) := by
  rw [← part_set (ss := old ++ [leaf]) (k := k) (by simp; omega)]
  rw [hc, List.getElem_append_left hk]

theorem graft_last {old : List Str} {leaf : Str} : (part (old ++ [leaf]) old.length).set old.length (.string (bs leaf)) = (old ++ [leaf]).map (fun s => .string (bs s)) := by
  rw [← part_full (ss := old ++ [leaf]) (k := old.length + 1) (by simp), ← part_set (ss := old ++ [leaf]) (k := old.length) (by simp)]
  simp

/-- The map of children with the leaf hung in. -/
theorem graft_map {w w' : World} {G : Nat} {ids : List Str} {C : Str → List Str} {f : Str → Option Value} {under leaf : Str} {v : Value} (hn : ids.Nodup) (h0 : ∀ s, s ∉ ids → C s = [])
    (h1 : MapAt w G f ids.length) (h2 : ∀ s, s ∈ ids ↔ (f s).isSome = true) (h3 : ∀ s v, f s = some v → SV w v (C s)) (hv : SV w v (C under ++ [leaf]))
    (h4 : MapAt w' G (upd f under v) (cup f under ids.length)) (hg : w.grownBy w' (some G)) : ChMap w' (.map (some G)) (graftIds ids under) (graft C under leaf) := by
  refine ⟨graftIds_nodup hn under, fun s hs => ?_, Or.inr ⟨G, upd f under v, rfl, ?_, fun s => ?_, fun s u hu => ?_⟩⟩
  · rw [mem_graftIds, not_or] at hs
    unfold graft
    rw [if_neg hs.2]
    exact h0 s hs.1
  · have e : (graftIds ids under).length = cup f under ids.length := by
      unfold graftIds cup
      by_cases hu : under ∈ ids
      · rw [if_pos hu, if_pos ((h2 under).1 hu)]
      · rw [if_neg hu, if_neg (fun h => hu ((h2 under).2 h))]
        simp
    rw [e]
    exact h4
  · rw [mem_graftIds]
    by_cases e : s = under
    · simp [e, upd]
    · simp [e, upd, h2 s]
  · by_cases e : s = under
    · subst e
      rw [upd_same] at hu
      cases hu
      unfold graft
      rw [if_pos rfl]
      exact hv.mapGrown h1.noCell hg
    · rw [upd_other _ _ e] at hu
      unfold graft
      rw [if_neg e]
      exact (h3 s u hu).mapGrown h1.noCell hg

set_option maxRecDepth 100000 in
set_option maxHeartbeats 4000000 in
theorem law2_any (w : World) (mv iv : Value) (keys ids : List Str) (C : Str → List Str) (under leaf : Str) (hul : under.length ≤ maxLen) (hll : leaf.length ≤ maxLen) (hids : SV w iv ids) (hch : ChMap w mv keys C) :
    Calls Try.prog 4 #[mv, iv, .string (bs under), .string (bs leaf)] w fun e w' => e = .returned (.bool true) ∧ Below w.heap.size w w' := by
  obtain ⟨i0, hi, hz0, hz1, hz2⟩ := info_parts info9
  obtain ⟨ia, icap, rfl⟩ := hids.len
  have hil := hids.le
  by_cases hbig : 65536 < ids.length ∨ 65536 < under.length ∨ 65536 < leaf.length
  · by_cases h1 : 65536 < ids.length
    · have hb : (65536 : Int) < (ids.length : Int) := by omega
      clear hbig
      go_enter Try.func4, Try.ntmps4
      go_wp2_with fail
      go_ret
      exact ⟨rfl, Below.refl _ _⟩
    · have hb : ¬ (65536 : Int) < (ids.length : Int) := by omega
      by_cases h2 : 65536 < under.length
      · have hb2 : (65536 : Int) < (under.length : Int) := by omega
        clear hbig
        go_enter Try.func4, Try.ntmps4
        go_wp2_with fail
        go_ret
        exact ⟨rfl, Below.refl _ _⟩
      · have hb2 : ¬ (65536 : Int) < (under.length : Int) := by omega
        have hb3 : (65536 : Int) < (leaf.length : Int) := by omega
        clear hbig
        go_enter Try.func4, Try.ntmps4
        go_wp2_with fail
        go_ret
        exact ⟨rfl, Below.refl _ _⟩
  have hsm : ids.length ≤ 65536 := by omega
  have hsu : under.length ≤ 65536 := by omega
  have hslf : leaf.length ≤ 65536 := by omega
  clear hbig
  go_enter Try.func4, Try.ntmps4
  go_wp2_with fail
  refine (bytes_any w mv _ keys ids C hids hch hsm).mono ?_
  rintro e w' ⟨r, rfl, rfl, hr0, hr1, hr2⟩
  by_cases hcap : 1048576 < r + under.length + leaf.length
  · go_wp2_with fail
    go_ret
    exact ⟨rfl, Below.refl _ _⟩
  have htot := hr2 (by omega)
  have htot' : (ids.flatMap C).length ≤ 65536 := by omega
  clear hr2 htot
  go_wp2_with fail
  refine (keysAre_any _ mv _ keys ids C hids hch).mono ?_
  rintro e w1 ⟨r1, rfl, hb1, hk⟩
  cases r1 with
  | false =>
    go_wp2_with fail
    go_ret
    exact ⟨rfl, hb1⟩
  | true =>
    obtain ⟨hnd, hkeys⟩ := hk rfl
    have h0 : ∀ s, s ∉ ids → C s = [] := fun s hs => hch.2.1 s (fun h => hs ((hkeys s).2 h))
    have HND := hide hnd
    have HKEYS := hide hkeys
    have H0 := hide h0
    clear hk hnd hkeys h0
    have hids1 := hids.below hb1
    have hch1 := hch.below hb1
    go_wp2_with fail
    refine (forest_any _ mv _ keys ids C hids1 hch1).mono ?_
    rintro e w2 ⟨r2, rfl, hb2, hf⟩
    have hB2 := hb1.trans (hb2.mono hb1.size)
    cases r2 with
    | false =>
      go_wp2_with fail
      go_ret
      exact ⟨rfl, hB2⟩
    | true =>
      obtain ⟨hf1, hf2⟩ := hf rfl
      have F : Forest C ids := ⟨hf1, hf2, H0.out⟩
      clear hf hf1 hf2
      have hids2 := hids1.below hb2
      have hch2 := hch1.below hb2
      by_cases hle : leaf = []
      · have hq : leaf.isEmpty = true := by simp [hle]
        clear hle
        go_wp2_with fail
        go_ret
        exact ⟨rfl, hB2⟩
      have hq : leaf.isEmpty = false := by simp [hle]
      have HLE := hide hle
      clear hle
      obtain ⟨lv2, hr2⟩ := hch2.getOk hll
      by_cases hlk : leaf ∈ keys
      · rw [decide_eq_true hlk] at hr2
        clear hlk
        go_wp2_with fail
        go_ret
        exact ⟨rfl, hB2⟩
      rw [decide_eq_false hlk] at hr2
      have HLK := hide (show leaf ∉ ids from fun h => hlk ((HKEYS.out leaf).1 h))
      clear hlk
      go_wp2_with fail
      refine (isChild_any _ mv _ keys ids C leaf hids2 hch2).mono ?_
      rintro e w2' ⟨rfl, hw2'⟩
      subst hw2'
      by_cases hlc : leaf ∈ ids.flatMap C
      · rw [decide_eq_true hlc]
        clear hlc
        go_wp2_with fail
        go_ret
        exact ⟨rfl, hB2⟩
      rw [decide_eq_false hlc]
      have HLC := hide hlc
      clear hlc hr2
      go_wp2_with fail
      refine (copyChildren_any _ mv _ keys ids C hids2 hch2 hsm HND.out HKEYS.out (lists_small H0.out htot')).mono ?_
      rintro e w3 ⟨mv3, rfl, hch3, hb3⟩
      have hids3 := hids2.below hb3
      have hB3 := hB2.trans (hb3.mono hB2.size)
      go_wp2_with fail
      refine (copyIDs_any _ _ ids hids3 hsm).mono ?_
      rintro e w4 ⟨iv4, rfl, hids4, hb4⟩
      have hch4 := hch3.below hb4
      have hB4 := hB3.trans (hb4.mono hB3.size)
      clear hids hch hids1 hch1 hids2 hch2 hids3 hch3 hb1 hb2 hb3 hb4 hB2 hB3
      obtain ⟨ia4, icap4, rfl⟩ := hids4.len
      have hmm := @run_makeMap Try.prog
      go_wp2_with fail
      clear hmm
      go_loopg [12] (ids.length) (fun g i wr => ∃ k : Nat, k ≤ ids.length ∧ g = ids.length - k ∧ i = .int .i64 k ∧ Half wr w4.heap.size ids C k ∧ Below w4.heap.size w4 wr)
      case atStart => exact ⟨0, by omega, by omega, rfl, ⟨_, MapAt.made w4, by simp, by simp⟩, (Below.refl _ _).alloc (Nat.le_refl _) _⟩
      case round =>
        obtain ⟨k, hk, rfl, rfl, hhalf, hnx⟩ := hrel
        by_cases hlt : k < ids.length
        · obtain ⟨b, off, s, rfl, hb, HS, hsl, hck0⟩ := hids4.get hlt
          have hck : wr.cell? ⟨b, off + k, none⟩ = some (.string (bs s)) := (hnx.cell (p := ⟨b, off + k, none⟩) hb).trans hck0
          obtain ⟨la, lcap, hr0, hlv⟩ := hch4.getB hsl
          have hr := hr0 wr.drew hnx.drew
          obtain ⟨f, m1, m2, m3⟩ := hhalf
          have hfr := Half.fresh hlt HND.out HS.out m2
          obtain ⟨w5, hrun, hm5, hg5⟩ := m1.drew.store Try.underlying22 hsl (.slice la (C s).length lcap)
          have hm5' : MapAt w5 w4.heap.size (upd f s (.slice la (C s).length lcap)) (k + 1) := by
            unfold upd
            simpa [hfr] using hm5
          have hlvr : SV wr.drew (.slice la (C s).length lcap) (C s) := hlv.below hnx.drew
          have hhalf5 := Half.step (w := wr.drew) hlt HS.out m1.drew m2 m3 hlvr hm5' hg5
          have hnx5 : Below w4.heap.size w4 w5 := hnx.drew.grown hg5 hnx.size (fun j hj => by cases hj; exact Nat.le_refl _)
          have HH5 := hide hhalf5
          have HN5 := hide hnx5
          clear hr0 m1 m2 m3 hfr hm5 hm5' hg5 hhalf5 hnx5 hlvr hlv hnx
          go_wp2
          go_region
          go_wp2
          go_roundg (ids.length - (k + 1))
          case measure => omega
          case rel => exact ⟨k + 1, by omega, rfl, by go_num, HH5.out, HN5.out⟩
        · obtain ⟨f, m1, m2, m3⟩ := hhalf
          have ek : k = ids.length := by omega
          subst ek
          rw [List.take_length] at m2
          obtain ⟨la, lcap, hr0, hlv0⟩ := hch4.getB hul
          have hr := hr0 wr hnx
          have hlv := hlv0.below hnx
          have hcu := lists_small H0.out htot' under
          have HM2 := hide m2
          have HM3 := hide m3
          clear m2 m3 hr0 hlv0
          go_wp2_with (at_make; refine wpList_make_full _ rfl _ _ 23 rfl wr.heap.size 9 i0 (.string (bs [])) 1 Try.underlying23 hi hz0 hz1 _ _ _ _ ((C under).length + 1) rfl rfl (by omega) (by omega) (by rw [hz2]; omega) (by unfold maxLen; omega) (Nat.le_refl _) ?_)
          intro w5 hown hg
          have hrow := made_row (ss := C under ++ [leaf]) (by simp) hown
          have hnx5 : Below wr.heap.size wr w5 := (Below.refl _ _).grown hg (Nat.le_refl _) (fun j hj => by cases hj)
          clear hown hg hr
          go_wp2_with fail
          go_loopg [15] ((C under).length) (fun g i w6 => ∃ j : Nat, j ≤ (C under).length ∧ g = (C under).length - j ∧ i = .int .i64 j ∧ RowAt w6 wr.heap.size (part (C under ++ [leaf]) j) ∧ Below wr.heap.size wr w6)
          case atStart => exact ⟨0, by omega, by omega, rfl, hrow, hnx5⟩
          case round =>
            clear hrow hnx5
            rename World => w6
            obtain ⟨j, hj, rfl, rfl, hrow, hnx6⟩ := hrel
            by_cases hlt2 : j < (C under).length
            · obtain ⟨b2, off2, c, rfl, hb2, HC, hcl, hcj0⟩ := hlv.get hlt2
              have hcj : w6.cell? ⟨b2, off2 + j, none⟩ = some (.string (bs c)) := (hnx6.cell (p := ⟨b2, off2 + j, none⟩) hb2).trans hcj0
              have hd : w6.cell? ⟨wr.heap.size, j, none⟩ = some (.string (bs [])) := (hrow.cell j).trans (part_at (by simp; omega))
              have hf := hrow.frozen j
              go_wp2_with fail
              go_roundg ((C under).length - (j + 1))
              case measure => omega
              case rel => exact ⟨j + 1, by omega, rfl, by go_num, by rw [← graft_at hlt2 HC.out]; exact hrow.set j _, hnx6.setCell (Nat.le_refl _) _⟩
            · have ej : j = (C under).length := by omega
              subst ej
              have hd : w6.cell? ⟨wr.heap.size, (C under).length, none⟩ = some (.string (bs [])) := (hrow.cell _).trans (part_at (by simp))
              have hf := hrow.frozen (C under).length
              have hrow7 := hrow.set (C under).length (.string (bs leaf))
              rw [graft_last] at hrow7
              have hnx7 : Below wr.heap.size wr (w6.setCell ⟨wr.heap.size, (C under).length, none⟩ (.string (bs leaf))) := hnx6.setCell (Nat.le_refl _) _
              have hsv7 := hrow7.sv (by simp only [List.length_append, List.length_singleton]; unfold maxLen; omega) (fun s hs => by
                simp only [List.mem_append, List.mem_singleton] at hs
                rcases hs with hs | rfl
                · exact hlv.size s hs
                · exact hll)
              have m7 := m1.below hnx7 m1.lt
              have h37 : ∀ s v, f s = some v → SV (w6.setCell ⟨wr.heap.size, (C under).length, none⟩ (.string (bs leaf))) v (C s) := fun s v hs => (HM3.out s v hs).below hnx7
              have H37 := hide h37
              have HSV7 := hide hsv7
              have HNX7 := hide (hnx.trans (hnx7.mono hnx.size))
              clear hrow hrow7 hnx6 hnx7 hsv7 h37 HM3 m1 hnx hlv
              simp only [List.length_append, List.length_singleton] at HSV7
              go_wp2_with (at_mapUpdate; refine wpList_mapStoreC _ rfl _ _ _ 22 rfl 23 Try.underlying22 w4.heap.size _ _ rfl m7 under _ rfl rfl hul ?_)
              intro w8 hm8 hg8
              have hnx8 : Below w4.heap.size w4 w8 := HNX7.out.grown hg8 HNX7.out.size (fun j hj => by cases hj; exact Nat.le_refl _)
              have hgm := graft_map HND.out H0.out m7 HM2.out H37.out HSV7.out hm8 hg8
              have hids8 := hids4.below hnx8
              have hch8 := hch4.below hnx8
              have hB8 := hB4.trans (hnx8.mono hB4.size)
              have F' := F.graft HND.out HLE.out HLC.out (under := under)
              have hgl := graft_flat_len F HND.out HLE.out HLC.out (under := under)
              clear hm8 hg8 m7 HM2 H37 HSV7 HNX7 hd hf hids4 hch4 hB4 hnx8
              go_wp2_with fail
              refine (zzreachable_any _ mv3 ids C hch8 F (by omega)).mono ?_
              rintro e w9 ⟨D, rfl, hset9, hD, hb9⟩
              have hids9 := hids8.below hb9
              have hch9 := hch8.below hb9
              have hgm9 := hgm.below hb9
              have hB9 := hB8.trans (hb9.mono hB8.size)
              have HD := hide hD
              clear hD hids8 hch8 hgm hB8 hb9
              go_wp2_with fail
              refine (zzreachable_any _ _ _ _ hgm9 F' (by omega)).mono ?_
              rintro e w10 ⟨D', rfl, hset10, hD', hb10⟩
              have hids10 := hids9.below hb10
              have hch10 := hch9.below hb10
              have hset9' := hset9.below hb10 hset9.2.lt
              have hB10 := hB9.trans (hb10.mono hB9.size)
              have HD' := hide hD'
              clear hD' hids9 hch9 hgm9 hB9 hset9 hb10
              obtain ⟨W, HW⟩ : ∃ W : Bool, Hid (W = decide (under = [] ∨ under ∈ D)) := ⟨_, rfl⟩
              go_upto_region 33 with fail
              go_cut [18] (fun v wx => v = .bool W ∧ wx = w10)
              case first =>
                by_cases hue : under = []
                · have hb1 : under.isEmpty = true := by simp [hue]
                  have HWt := hide (show W = true by rw [HW.out]; simp [hue])
                  clear hue
                  go_wp2_with fail
                  go_meet
                  case rel => exact ⟨by rw [HWt.out], rfl⟩
                · have hb1 : under.isEmpty = false := by simp [hue]
                  have hr := hset9'.look hul
                  have HWt := hide (show W = decide (under ∈ D) by rw [HW.out]; simp [hue])
                  rw [← HWt.out] at hr
                  clear hue
                  go_wp2_with fail
                  go_meet
                  case rel => exact ⟨rfl, rfl⟩
              case rest =>
                rename World => wc
                obtain ⟨rfl, hwc⟩ := hcut
                subst hwc
                have hr1 := hset10.look hll
                have hlW : decide (leaf ∈ D') = W := by
                  rw [HW.out]
                  have h := graft_leaf F HND.out HLE.out HLC.out HLK.out (under := under)
                  rw [← HD'.out leaf, ← HD.out under] at h
                  simp only [h]
                rw [hlW] at hr1
                clear hlW
                have hWW : (W != W) = false := by simp
                go_wp2_with fail
                clear hr1
                go_loopg [19] (ids.length) (fun g i wr => ∃ k : Nat, k ≤ ids.length ∧ g = ids.length - k ∧ i = .int .i64 k ∧ Below wc.heap.size wc wr)
                case atStart => exact ⟨0, by omega, by omega, rfl, Below.refl _ _⟩
                case round =>
                  rename World => w11
                  obtain ⟨k, hk, rfl, rfl, hnx⟩ := hrel
                  by_cases hlt : k < ids.length
                  · obtain ⟨b, off, s, rfl, hb, HS, hsl, hck0⟩ := hids10.get hlt
                    have hck : w11.cell? ⟨b, off + k, none⟩ = some (.string (bs s)) := (hnx.cell (p := ⟨b, off + k, none⟩) hb).trans hck0
                    obtain ⟨la, lcap, hr0, hlv⟩ := hch10.getB hsl
                    have hr := hr0 w11 hnx
                    have hcu := lists_small H0.out htot' s
                    clear hr0
                    go_wp2_with fail
                    clear hr hck
                    go_loopg [21] ((C s).length) (fun g i w12 => ∃ j : Nat, j ≤ (C s).length ∧ g = (C s).length - j ∧ i = .int .i64 j ∧ Below wc.heap.size wc w12)
                    case atStart => exact ⟨0, by omega, by omega, rfl, hnx⟩
                    case round =>
                      clear hnx
                      rename World => w12
                      obtain ⟨j, hj, rfl, rfl, hnx⟩ := hrel
                      by_cases hlt2 : j < (C s).length
                      · obtain ⟨b2, off2, c, rfl, hb2, HC, hcl, hcj0⟩ := hlv.get hlt2
                        have hcj : w12.cell? ⟨b2, off2 + j, none⟩ = some (.string (bs c)) := (hnx.cell (p := ⟨b2, off2 + j, none⟩) hb2).trans hcj0
                        have hca : c ∈ ids.flatMap C := in_some hlt HS.out (by rw [HC.out]; exact List.getElem_mem hlt2)
                        have hcne : c ≠ leaf := fun e => HLC.out (e ▸ hca)
                        have hb1 : decide (c ∈ D') = decide (c ∈ D) := by
                          have h := graft_old F HLK.out (under := under) hcne
                          rw [← HD'.out c, ← HD.out c] at h
                          simp only [h]
                        have hr1 := (hset10.below hnx.drew hset10.2.lt).look hcl
                        have hr2 := (hset9'.below hnx.drew hset9'.2.lt).look hcl
                        rw [hb1] at hr1
                        generalize decide (c ∈ D) = bc at hr1 hr2
                        have hbb : (bc != bc) = false := by simp
                        clear hb1 hcne hca
                        go_wp2_with fail
                        go_region
                        go_wp2_with fail
                        go_roundg ((C s).length - (j + 1))
                        case measure => omega
                        case rel => exact ⟨j + 1, by omega, rfl, by go_num, hnx.drew⟩
                      · go_wp2_with fail
                        go_roundg (ids.length - (k + 1))
                        case measure => omega
                        case rel => exact ⟨k + 1, by omega, rfl, by go_num, hnx⟩
                  · have hln1 := fun ty => (hset10.below hnx hset10.2.lt).length ty
                    have hln2 := fun ty => (hset9'.below hnx hset9'.2.lt).length ty
                    have hcount := graft_count F HND.out HLE.out HLC.out HLK.out hset9'.1 hset10.1 HD.out HD'.out (under := under)
                    cases hWc : W with
                    | true =>
                      have hw : under = [] ∨ under ∈ D := by
                        have := HW.out
                        rw [hWc] at this
                        exact of_decide_eq_true this.symm
                      have hc := hcount.1 hw
                      subst hWc
                      have hq : ((D'.length : Int) == (D.length : Int) + 1) = true := by rw [beq_iff_eq]; omega
                      have hDl : D.length ≤ 70000 := by
                        refine Nat.le_trans (length_le_of_sub (m := ids.flatMap C) hset9'.1 (fun x hx => climbs_mem F ((HD.out x).1 hx))) (by omega)
                      clear hcount hw hc
                      go_wp2_with fail
                      go_ret
                      exact ⟨rfl, hB10.trans (hnx.mono hB10.size)⟩
                    | false =>
                      have hw : ¬ (under = [] ∨ under ∈ D) := by
                        have := HW.out
                        rw [hWc] at this
                        exact of_decide_eq_false this.symm
                      have hc := hcount.2 hw
                      subst hWc
                      have hq : ((D'.length : Int) == (D.length : Int)) = true := by rw [beq_iff_eq]; omega
                      have hDl : D.length ≤ 70000 := by
                        refine Nat.le_trans (length_le_of_sub (m := ids.flatMap C) hset9'.1 (fun x hx => climbs_mem F ((HD.out x).1 hx))) (by omega)
                      clear hcount hw hc
                      go_wp2_with fail
                      go_ret
                      exact ⟨rfl, hB10.trans (hnx.mono hB10.size)⟩

end Go.Proofs.Qxb6601503a
