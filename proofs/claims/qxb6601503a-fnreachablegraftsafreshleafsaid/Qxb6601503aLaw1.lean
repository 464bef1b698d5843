/-
  The walk of FnReachableIsWhatClimbsToTheTop, out of the contracts.
-/
import Derived.Test.Qxb6601503aVerd
namespace Go.Proofs.Qxb6601503a
open Go.RowKit
set_option linter.unusedVariables false
attribute [local go_sem] bs_toList bs_size

/-- How many of L are in D. -/
def cnt (D L : List Str) : Nat := (L.filter (fun x => decide (x ∈ D))).length
theorem cnt_le (D L : List Str) : cnt D L ≤ L.length := List.length_filter_le _ _
theorem cnt_nil (D : List Str) : cnt D [] = 0 := rfl
theorem cnt_append (D L M : List Str) : cnt D (L ++ M) = cnt D L + cnt D M := by simp [cnt]
theorem cnt_yes {D : List Str} {c : Str} (h : c ∈ D) : cnt D [c] = 1 := by simp [cnt, h]
theorem cnt_no {D : List Str} {c : Str} (h : c ∉ D) : cnt D [c] = 0 := by simp [cnt, h]

theorem lists_small {ids : List Str} {C : Str → List Str} (h0 : ∀ s, s ∉ ids → C s = []) (htot : (ids.flatMap C).length ≤ 65536) (s : Str) : (C s).length ≤ 65536 := by
  by_cases h : s ∈ ids
  · obtain ⟨a, b, rfl⟩ := List.append_of_mem h
    simp only [List.flatMap_append, List.flatMap_cons, List.length_append] at htot
    omega
  · rw [h0 s h]; exact Nat.zero_le _

set_option maxHeartbeats 2000000 in
theorem law1_any (w : World) (mv iv : Value) (keys ids : List Str) (C : Str → List Str) (hids : SV w iv ids) (hch : ChMap w mv keys C) :
    Calls Try.prog 3 #[mv, iv] w fun e w' => e = .returned (.bool true) ∧ Below w.heap.size w w' := by
  obtain ⟨ia, icap, rfl⟩ := hids.len
  have hil := hids.le
  by_cases hbig : 65536 < ids.length
  · have hb : (65536 : Int) < (ids.length : Int) := by omega
    go_enter Try.func3, Try.ntmps3
    go_wp2_with fail
    go_ret
    exact ⟨rfl, Below.refl _ _⟩
  have hsm : ids.length ≤ 65536 := by omega
  clear hbig
  go_enter Try.func3, Try.ntmps3
  go_wp2_with fail
  refine (bytes_any w mv _ keys ids C hids hch hsm).mono ?_
  rintro e w' ⟨r, rfl, rfl, hr0, hr1, hr2⟩
  by_cases hcap : 1048576 < r
  · go_wp2_with fail
    go_ret
    exact ⟨rfl, Below.refl _ _⟩
  have htot := hr2 (by omega)
  have htot' : (ids.flatMap C).length ≤ 65536 := by omega
  clear hr2 htot
  go_wp2_with fail
  refine (keysAre_any _ mv _ keys ids C hids hch).mono ?_
  rintro e w1 ⟨r1, rfl, hb1, hk⟩
  cases r1 with
  | false =>
    go_wp2_with fail
    go_ret
    exact ⟨rfl, hb1⟩
  | true =>
    obtain ⟨hnd, hkeys⟩ := hk rfl
    have h0 : ∀ s, s ∉ ids → C s = [] := fun s hs => hch.2.1 s (fun h => hs ((hkeys s).2 h))
    have HND := hide hnd
    have HKEYS := hide hkeys
    have H0 := hide h0
    clear hk hnd hkeys h0
    have hids1 := hids.below hb1
    have hch1 := hch.below hb1
    go_wp2_with fail
    refine (forest_any _ mv _ keys ids C hids1 hch1).mono ?_
    rintro e w2 ⟨r2, rfl, hb2, hf⟩
    have hB2 := hb1.trans (hb2.mono hb1.size)
    cases r2 with
    | false =>
      go_wp2_with fail
      go_ret
      exact ⟨rfl, hB2⟩
    | true =>
      obtain ⟨hf1, hf2⟩ := hf rfl
      have F : Forest C ids := ⟨hf1, hf2, H0.out⟩
      clear hf hf1 hf2
      have hids2 := hids1.below hb2
      have hch2 := hch1.below hb2
      go_wp2_with fail
      refine (copyChildren_any _ mv _ keys ids C hids2 hch2 hsm HND.out HKEYS.out (lists_small H0.out htot')).mono ?_
      rintro e w3 ⟨mv3, rfl, hch3, hb3⟩
      have hids3 := hids2.below hb3
      have hB3 := hB2.trans (hb3.mono hB2.size)
      go_wp2_with fail
      refine (copyIDs_any _ _ ids hids3 hsm).mono ?_
      rintro e w4 ⟨iv4, rfl, hids4, hb4⟩
      have hch4 := hch3.below hb4
      have hB4 := hB3.trans (hb4.mono hB3.size)
      go_wp2_with fail
      refine (zzreachable_any _ mv3 ids C hch4 F (by omega)).mono ?_
      rintro e w5 ⟨D, rfl, hset5, hD, hb5⟩
      have hids5 := hids4.below hb5
      have hch5 := hch4.below hb5
      have hB5 := hB4.trans (hb5.mono hB4.size)
      have HD := hide hD
      clear hD
      go_wp2_with fail
      refine (verdicts_any _ mv3 iv4 ids ids C hids5 hch5 F hch5.sizes htot' hsm).mono ?_
      rintro e w6 ⟨sb, f, n6, rfl, hm6, hf6, hb6⟩
      have hids6 := hids5.below hb6
      have hch6 := hch5.below hb6
      have hset6 := hset5.below hb6 (hset5.2.lt)
      have hB6 := hB5.trans (hb6.mono hB5.size)
      have HF6 := hide hf6
      clear hf6 hids hch hids1 hch1 hids2 hch2 hids3 hch3 hids4 hch4 hids5 hch5 hset5 hb1 hb2 hb3 hb4 hb5 hb6 hB2 hB3 hB4 hB5
      obtain ⟨ia6, icap6, rfl⟩ := hids6.len
      have hln := fun ty => hset6.length ty
      go_wp2_with fail
      go_loopg [7, 8] (ids.length) (fun g c i wr => ∃ k : Nat, k ≤ ids.length ∧ g = ids.length - k ∧ i = .int .i64 k ∧ c = .int .i64 (cnt D ((ids.take k).flatMap C)) ∧ wr = w6)
      case atStart => exact ⟨0, by omega, by omega, rfl, rfl, rfl⟩
      case round =>
        obtain ⟨k, hk, rfl, rfl, rfl, rfl⟩ := hrel
        have hcle := cnt_le D ((ids.take k).flatMap C)
        have hfle : ((ids.take k).flatMap C).length ≤ 65536 := by
          have : (ids.flatMap C).length = ((ids.take k).flatMap C).length + ((ids.drop k).flatMap C).length := by
            rw [← List.length_append, ← List.flatMap_append, List.take_append_drop]
          omega
        by_cases hlt : k < ids.length
        · obtain ⟨b, off, s, rfl, hb, HS, hsl, hck⟩ := hids6.get hlt
          obtain ⟨la, lcap, hr, hlv⟩ := hch6.get hsl
          have hll := lists_small H0.out htot' s
          clear hln
          go_wp2_with fail
          go_loopg [7, 10] ((C s).length) (fun g c i wr' => ∃ j : Nat, j ≤ (C s).length ∧ g = (C s).length - j ∧ i = .int .i64 j ∧ c = .int .i64 (cnt D ((ids.take k).flatMap C ++ (C s).take j)) ∧ wr' = wr)
          case atStart => exact ⟨0, by omega, by omega, rfl, by simp, rfl⟩
          case round =>
            obtain ⟨j, hj, rfl, rfl, rfl, rfl⟩ := hrel
            have hcle2 : cnt D ((ids.take k).flatMap C ++ (C s).take j) ≤ 200000 := by
              refine Nat.le_trans (cnt_le _ _) ?_
              rw [List.length_append, List.length_take]
              omega
            by_cases hlt2 : j < (C s).length
            · obtain ⟨b2, off2, c, rfl, hb2, HC, hcl, hcj⟩ := hlv.get hlt2
              have hca : c ∈ ids.flatMap C := by
                refine List.mem_flatMap.2 ⟨s, ?_, by rw [HC.out]; exact List.getElem_mem hlt2⟩
                rw [HS.out]
                exact List.getElem_mem hlt
              have hr1 := hm6.look Try.underlying30 (zero32 _) hcl
              have hr2 := hset6.look hcl
              have HST := hide (show (C s).take (j + 1) = (C s).take j ++ [c] by rw [take_snoc hlt2, HC.out])
              rcases HF6.out c hca with ⟨h1, h2⟩ | ⟨h1, h2⟩
              · rw [h2] at hr1
                simp only [Option.getD_some] at hr1
                have hin := (HD.out c).2 h1
                rw [decide_eq_true hin] at hr2
                have HIN := hide hin
                clear h1 h2 hin hca
                go_wp2_with fail
                go_roundg ((C s).length - (j + 1))
                case measure => omega
                case rel => exact ⟨j + 1, by omega, rfl, by go_num, by rw [HST.out, ← List.append_assoc, cnt_append D _ [c], cnt_yes HIN.out]; go_num, rfl⟩
              · rw [h2] at hr1
                simp only [Option.getD_some] at hr1
                have hin : c ∉ D := fun h => h1 ((HD.out c).1 h)
                rw [decide_eq_false hin] at hr2
                have HIN := hide hin
                clear h1 h2 hin hca
                go_wp2_with fail
                go_roundg ((C s).length - (j + 1))
                case measure => omega
                case rel => exact ⟨j + 1, by omega, rfl, by go_num, by rw [HST.out, ← List.append_assoc, cnt_append D _ [c], cnt_no HIN.out]; rfl, rfl⟩
            · rw [List.take_of_length_le (by omega : (C s).length ≤ j), ← flat_step hlt HS.out]
              go_wp2_with fail
              go_roundg (ids.length - (k + 1))
              case measure => omega
              case rel => exact ⟨k + 1, by omega, rfl, by go_num, rfl, rfl⟩
        · have e : cnt D ((ids.take k).flatMap C) = D.length := by
            rw [List.take_of_length_le (by omega : ids.length ≤ k)]
            exact count_eq F.nodup hset6.1 (fun x hx => climbs_mem F ((HD.out x).1 hx))
          rw [e]
          have hq : ((D.length : Int) == (D.length : Int)) = true := by simp
          go_wp2_with fail
          go_ret
          exact ⟨rfl, hB6⟩

end Go.Proofs.Qxb6601503a
