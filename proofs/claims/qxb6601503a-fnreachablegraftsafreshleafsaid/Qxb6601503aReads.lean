/-
  Walks: the functions that only read the map of children (reachIsChild, reachBytes), or make a set beside it (reachKeysAre, reachForestShaped).
-/
import Derived.Test.Qxb6601503aBase
namespace Go.Proofs.Qxb6601503a
open Go.RowKit
set_option linter.unusedVariables false
attribute [local go_sem] bs_toList bs_size

theorem notin_step {C : Str → List Str} {ids : List Str} {x s : Str} {k : Nat} (hk : k < ids.length) (hs : s = ids[k]) (h1 : x ∉ (ids.take k).flatMap C) (h2 : x ∉ C s) : x ∉ (ids.take (k + 1)).flatMap C := by
  subst hs
  rw [take_snoc hk, List.flatMap_append]
  simp only [List.flatMap_cons, List.flatMap_nil, List.append_nil, List.mem_append, not_or]
  exact ⟨h1, h2⟩

theorem in_some {C : Str → List Str} {ids : List Str} {x s : Str} {k : Nat} (hk : k < ids.length) (hs : s = ids[k]) (h2 : x ∈ C s) : x ∈ ids.flatMap C := by
  subst hs
  exact List.mem_flatMap.2 ⟨_, List.getElem_mem hk, h2⟩

theorem notin_take {l : List Str} {x : Str} {j : Nat} (hj : j < l.length) (h1 : x ∉ l.take j) (h2 : x ≠ l[j]) : x ∉ l.take (j + 1) := by
  rw [take_snoc hj]
  simp only [List.mem_append, List.mem_singleton, not_or]
  exact ⟨h1, h2⟩

theorem flat_step {C : Str → List Str} {ids : List Str} {s : Str} {k : Nat} (hk : k < ids.length) (hs : s = ids[k]) : (ids.take (k + 1)).flatMap C = (ids.take k).flatMap C ++ C s := by
  subst hs
  rw [take_snoc hk, List.flatMap_append]
  simp

set_option maxHeartbeats 400000 in
theorem isChild_any (w : World) (mv iv : Value) (keys ids : List Str) (C : Str → List Str) (x : Str) (hids : SV w iv ids) (hch : ChMap w mv keys C) :
    Calls Try.prog 12 #[mv, iv, .string (bs x)] w fun e w' => e = .returned (.bool (decide (x ∈ ids.flatMap C))) ∧ w' = w := by
  obtain ⟨ia, icap, rfl⟩ := hids.len
  have hil := hids.le
  go_enter Try.func12, Try.ntmps12
  go_wp2
  go_loopg [7] (ids.length) (fun g i wr => ∃ k : Nat, k ≤ ids.length ∧ g = ids.length - k ∧ i = .int .i64 k ∧ wr = w ∧ x ∉ (ids.take k).flatMap C)
  case atStart => exact ⟨0, by omega, by omega, rfl, rfl, by simp⟩
  case round =>
    obtain ⟨k, hk, rfl, rfl, rfl, hx⟩ := hrel
    have HX : Hid (x ∉ (ids.take k).flatMap C) := hx
    clear hx
    by_cases hlt : k < ids.length
    · obtain ⟨b, off, s, rfl, hb, HS, hsl, hck⟩ := hids.get hlt
      obtain ⟨la, lcap, hr, hlv⟩ := hch.get hsl
      have hll := hlv.le
      go_wp2
      go_loopg [9] ((C s).length) (fun g i wr' => ∃ j : Nat, j ≤ (C s).length ∧ g = (C s).length - j ∧ i = .int .i64 j ∧ wr' = wr ∧ x ∉ (C s).take j)
      case atStart => exact ⟨0, by omega, by omega, rfl, rfl, by simp⟩
      case round =>
        obtain ⟨j, hj, rfl, rfl, rfl, hx⟩ := hrel
        have HX2 : Hid (x ∉ (C s).take j) := hx
        clear hx
        by_cases hlt2 : j < (C s).length
        · obtain ⟨b2, off2, c, rfl, hb2, HC, hcl, hcj⟩ := hlv.get hlt2
          by_cases hcx : c = x
          · have hb1 : (c == x) = true := by simp [hcx]
            have HCX : Hid (c = x) := hcx
            clear hcx
            go_wp2
            go_ret
            exact ⟨ret_bool (decide_eq_true (in_some hlt HS.out (by rw [← HCX.out, HC.out]; exact List.getElem_mem hlt2))).symm, rfl⟩
          · have hb1 : (c == x) = false := by simp [hcx]
            go_wp2
            go_roundg ((C s).length - (j + 1))
            case measure => omega
            case rel => exact ⟨j + 1, by omega, rfl, by go_num, rfl, notin_take hlt2 HX2.out (by rw [← HC.out]; exact fun e => hcx e.symm)⟩
        · go_wp2
          go_roundg (ids.length - (k + 1))
          case measure => omega
          case rel => exact ⟨k + 1, by omega, rfl, by go_num, rfl, notin_step hlt HS.out HX.out (by have := HX2.out; rwa [List.take_of_length_le (by omega)] at this)⟩
    · go_wp2
      go_ret
      exact ⟨ret_bool (decide_eq_false (by have := HX.out; rwa [List.take_of_length_le (by omega)] at this)).symm, rfl⟩

set_option maxHeartbeats 400000 in
theorem bytes_any (w : World) (mv iv : Value) (keys ids : List Str) (C : Str → List Str) (hids : SV w iv ids) (hch : ChMap w mv keys C) (hsmall : ids.length ≤ 65536) :
    Calls Try.prog 5 #[mv, iv] w fun e w' => ∃ r : Int, e = .returned (.int .i64 r) ∧ w' = w ∧ 0 ≤ r ∧ r ≤ 33554432 ∧ (r ≤ 1048576 → 16 * (ids.flatMap C).length ≤ 1048576) := by
  obtain ⟨ia, icap, rfl⟩ := hids.len
  go_enter Try.func5, Try.ntmps5
  go_wp2
  go_loopg [5, 6] (ids.length) (fun g t i wr => ∃ (k : Nat) (T : Int), k ≤ ids.length ∧ g = ids.length - k ∧ i = .int .i64 k ∧ t = .int .i64 T ∧ wr = w ∧ 0 ≤ T ∧ T ≤ 1048576 ∧ 16 * (((ids.take k).flatMap C).length : Int) ≤ T)
  case atStart => exact ⟨0, _, by omega, by omega, rfl, rfl, rfl, by omega, by omega, by simp; omega⟩
  case round =>
    obtain ⟨k, T, hk, rfl, rfl, rfl, rfl, hT0, hT1, hT2⟩ := hrel
    have HT : Hid (16 * (((ids.take k).flatMap C).length : Int) ≤ T) := hT2
    clear hT2
    by_cases hlt : k < ids.length
    · obtain ⟨b, off, s, rfl, hb, HS, hsl, hck⟩ := hids.get hlt
      obtain ⟨la, lcap, hr, hlv⟩ := hch.get hsl
      have hll := hlv.le
      have hsl' : s.length ≤ 9223372036854775807 := hsl
      clear hsl
      go_wp2
      · go_ret
        exact ⟨_, rfl, rfl, by omega, by omega, fun h => by omega⟩
      · go_ret
        exact ⟨_, rfl, rfl, by omega, by omega, fun h => by omega⟩
      · go_ret
        exact ⟨_, rfl, rfl, by omega, by omega, fun h => by omega⟩
      · go_loopg [5, 8] ((C s).length) (fun g t i wr' => ∃ (j : Nat) (T' : Int), j ≤ (C s).length ∧ g = (C s).length - j ∧ i = .int .i64 j ∧ t = .int .i64 T' ∧ wr' = wr ∧ T + 16 * ((C s).length : Int) ≤ T' ∧ T' ≤ 1048576)
        case atStart => exact ⟨0, _, by omega, by omega, rfl, rfl, rfl, by omega, by omega⟩
        case round =>
          obtain ⟨j, T', hj, rfl, rfl, rfl, rfl, hT'0, hT'1⟩ := hrel
          by_cases hlt2 : j < (C s).length
          · obtain ⟨b2, off2, c, rfl, hb2, HC, hcl, hcj⟩ := hlv.get hlt2
            have hcl' : c.length ≤ 9223372036854775807 := hcl
            clear hcl
            go_wp2
            · go_ret
              exact ⟨_, rfl, rfl, by omega, by omega, fun h => by omega⟩
            · go_ret
              exact ⟨_, rfl, rfl, by omega, by omega, fun h => by omega⟩
            · go_roundg ((C s).length - (j + 1))
              case measure => omega
              case rel => exact ⟨j + 1, _, by omega, rfl, by go_num, rfl, rfl, by omega, by omega⟩
          · go_wp2
            go_roundg (ids.length - (k + 1))
            case measure => omega
            case rel => exact ⟨k + 1, _, by omega, rfl, by go_num, rfl, rfl, by omega, by omega, by have := HT.out; rw [flat_step hlt HS.out, List.length_append]; omega⟩
    · go_wp2
      go_ret
      exact ⟨_, rfl, rfl, by omega, by omega, fun h => by have := HT.out; rw [List.take_of_length_le (by omega)] at this; omega⟩

theorem keysAre_end {keys ids : List Str} (h1 : ids.Nodup) (h2 : ∀ s ∈ ids, s ∈ keys) (h3 : keys.length = ids.length) : ∀ s, s ∈ ids ↔ s ∈ keys :=
  fun s => ⟨h2 s, sub_of_len h1 h2 (by omega) s⟩

set_option maxHeartbeats 400000 in
theorem keysAre_any (w : World) (mv iv : Value) (keys ids : List Str) (C : Str → List Str) (hids : SV w iv ids) (hch : ChMap w mv keys C) :
    Calls Try.prog 6 #[mv, iv] w fun e w' => ∃ r : Bool, e = .returned (.bool r) ∧ Below w.heap.size w w' ∧ (r = true → ids.Nodup ∧ ∀ s, s ∈ ids ↔ s ∈ keys) := by
  obtain ⟨ia, icap, rfl⟩ := hids.len
  have hil := hids.le
  have hmm := @run_makeMap Try.prog
  have hln := fun ty => hch.length ty
  by_cases hlen : keys.length = ids.length
  · have hne : ((keys.length : Int) != (ids.length : Int)) = false := by simp [hlen]
    have HL : Hid (keys.length = ids.length) := hlen
    clear hlen
    go_enter Try.func6, Try.ntmps6
    go_wp2
    go_loopg [6] (ids.length) (fun g i wr => ∃ k : Nat, k ≤ ids.length ∧ g = ids.length - k ∧ i = .int .i64 k ∧ SetAt wr w.heap.size (ids.take k) ∧ Below w.heap.size w wr ∧ ∀ s ∈ ids.take k, s ∈ keys)
    case atStart => exact ⟨0, by omega, by omega, rfl, SetAt.made w, (Below.refl _ _).alloc (Nat.le_refl _) _, by simp⟩
    case round =>
      obtain ⟨k, hk, rfl, rfl, hset, hnx, hsub⟩ := hrel
      have HSUB : Hid (∀ s ∈ ids.take k, s ∈ keys) := hsub
      clear hsub
      by_cases hlt : k < ids.length
      · obtain ⟨b, off, s, rfl, hb, HS, hsl, hck0⟩ := hids.get hlt
        have hck : wr.cell? ⟨b, off + k, none⟩ = some (.string (bs s)) := (hnx.cell (p := ⟨b, off + k, none⟩) hb).trans hck0
        have hr1 := hset.look hsl
        by_cases hin : s ∈ ids.take k
        · have hd : decide (s ∈ ids.take k) = true := decide_eq_true hin
          rw [hd] at hr1
          clear hd hln
          go_wp2
          go_ret
          exact ⟨false, rfl, hnx, fun h => by cases h⟩
        · have hd : decide (s ∈ ids.take k) = false := decide_eq_false hin
          rw [hd] at hr1
          have HIN : Hid (s ∉ ids.take k) := hin
          clear hd hin hln
          go_wp2_with (at_mapUpdate; refine wpList_setAdd _ rfl _ _ _ rfl w.heap.size _ rfl hset s rfl rfl hsl HIN.out ?_)
          intro w1 hset1 hg1
          have hnx1 : Below w.heap.size w w1 := hnx.grown hg1 hnx.size (fun j hj => by cases hj; exact Nat.le_refl _)
          have hck1 : w1.cell? ⟨b, off + k, none⟩ = some (.string (bs s)) := (hnx1.cell (p := ⟨b, off + k, none⟩) hb).trans hck0
          obtain ⟨lv, hr2⟩ := (hch.below hnx1).getOk hsl
          clear hr1 hck hset hg1 hnx
          by_cases hkey : s ∈ keys
          · have hd : decide (s ∈ keys) = true := decide_eq_true hkey
            rw [hd] at hr2
            have HK : Hid (s ∈ keys) := hkey
            clear hd hkey
            go_wp2
            go_roundg (ids.length - (k + 1))
            case measure => omega
            case rel =>
              refine ⟨k + 1, by omega, rfl, by go_num, ?_, hnx1, ?_⟩
              · rw [take_snoc hlt, ← HS.out]; exact hset1
              · intro t ht
                rw [take_snoc hlt, ← HS.out] at ht
                simp only [List.mem_append, List.mem_singleton] at ht
                rcases ht with ht | rfl
                · exact HSUB.out t ht
                · exact HK.out
          · have hd : decide (s ∈ keys) = false := decide_eq_false hkey
            rw [hd] at hr2
            clear hd hkey
            go_wp2
            go_ret
            exact ⟨false, rfl, hnx1, fun h => by cases h⟩
      · clear hln
        go_wp2
        go_ret
        have e := List.take_of_length_le (l := ids) (i := k) (by omega)
        have h1 := hset.1
        have h2 := HSUB.out
        rw [e] at h1 h2
        exact ⟨true, rfl, hnx, fun _ => ⟨h1, keysAre_end h1 h2 HL.out⟩⟩
  · have hne : ((keys.length : Int) != (ids.length : Int)) = true := by rw [bne_iff_ne]; omega
    clear hlen
    go_enter Try.func6, Try.ntmps6
    go_wp2
    go_ret
    exact ⟨false, rfl, Below.refl _ _, fun h => by cases h⟩

set_option maxHeartbeats 400000 in
theorem forest_any (w : World) (mv iv : Value) (keys ids : List Str) (C : Str → List Str) (hids : SV w iv ids) (hch : ChMap w mv keys C) :
    Calls Try.prog 7 #[mv, iv] w fun e w' => ∃ r : Bool, e = .returned (.bool r) ∧ Below w.heap.size w w' ∧ (r = true → (ids.flatMap C).Nodup ∧ [] ∉ ids.flatMap C) := by
  obtain ⟨ia, icap, rfl⟩ := hids.len
  have hil := hids.le
  have hmm := @run_makeMap Try.prog
  go_enter Try.func7, Try.ntmps7
  go_wp2
  go_loopg [6] (ids.length) (fun g i wr => ∃ k : Nat, k ≤ ids.length ∧ g = ids.length - k ∧ i = .int .i64 k ∧ SetAt wr w.heap.size ((ids.take k).flatMap C) ∧ Below w.heap.size w wr ∧ [] ∉ (ids.take k).flatMap C)
  case atStart => exact ⟨0, by omega, by omega, rfl, SetAt.made w, (Below.refl _ _).alloc (Nat.le_refl _) _, by simp⟩
  case round =>
    obtain ⟨k, hk, rfl, rfl, hset, hnx, hno⟩ := hrel
    have HNO : Hid ([] ∉ (ids.take k).flatMap C) := hno
    clear hno
    by_cases hlt : k < ids.length
    · obtain ⟨b, off, s, rfl, hb, HS, hsl, hck0⟩ := hids.get hlt
      have hck : wr.cell? ⟨b, off + k, none⟩ = some (.string (bs s)) := (hnx.cell (p := ⟨b, off + k, none⟩) hb).trans hck0
      obtain ⟨la, lcap, hr, hlv⟩ := (hch.below hnx).get hsl
      have hll := hlv.le
      go_wp2
      go_loopg [8] ((C s).length) (fun g i wr' => ∃ j : Nat, j ≤ (C s).length ∧ g = (C s).length - j ∧ i = .int .i64 j ∧ SetAt wr' w.heap.size ((ids.take k).flatMap C ++ (C s).take j) ∧ Below w.heap.size w wr' ∧ SV wr' (.slice la (C s).length lcap) (C s) ∧ [] ∉ (C s).take j)
      case atStart => exact ⟨0, by omega, by omega, rfl, by simpa using hset, hnx, hlv, by simp⟩
      case round =>
        clear hset hnx hlv hr hck
        rename World => wo
        obtain ⟨j, hj, rfl, rfl, hset, hnx, hlv, hno⟩ := hrel
        have HNO2 : Hid ([] ∉ (C s).take j) := hno
        clear hno
        by_cases hlt2 : j < (C s).length
        · obtain ⟨b2, off2, c, rfl, hb2, HC, hcl, hcj⟩ := hlv.get hlt2
          have hr1 := hset.look hcl
          by_cases hce : c = []
          · have hb1 : c.isEmpty = true := by simp [hce]
            clear hce
            go_wp2
            go_ret
            exact ⟨false, rfl, hnx, fun h => by cases h⟩
          · have hb1 : c.isEmpty = false := by simp [hce]
            have HCE : Hid (c ≠ []) := hce
            clear hce
            by_cases hin : c ∈ (ids.take k).flatMap C ++ (C s).take j
            · have hd := decide_eq_true hin
              rw [hd] at hr1
              clear hd hin
              go_wp2
              go_ret
              exact ⟨false, rfl, hnx, fun h => by cases h⟩
            · have hd := decide_eq_false hin
              rw [hd] at hr1
              have HIN : Hid (c ∉ (ids.take k).flatMap C ++ (C s).take j) := hin
              clear hd hin
              go_wp2_with (at_mapUpdate; refine wpList_setAdd _ rfl _ _ _ rfl w.heap.size _ rfl hset c rfl rfl hcl HIN.out ?_)
              intro w1 hset1 hg1
              have hnx1 : Below w.heap.size w w1 := hnx.grown hg1 hnx.size (fun j hj => by cases hj; exact Nat.le_refl _)
              have hlv1 := hlv.mapGrown hset.2.noCell hg1
              clear hr1 hcj hset hg1 hnx hlv
              go_wp2
              go_roundg ((C s).length - (j + 1))
              case measure => omega
              case rel =>
                refine ⟨j + 1, by omega, rfl, by go_num, ?_, hnx1, hlv1, ?_⟩
                · rw [take_snoc hlt2, ← HC.out]; exact hset1
                · exact notin_take hlt2 HNO2.out (by rw [← HC.out]; exact fun e => HCE.out e.symm)
        · go_wp2
          go_roundg (ids.length - (k + 1))
          case measure => omega
          case rel =>
            have e := List.take_of_length_le (l := C s) (i := j) (by omega)
            have h2 := HNO2.out
            rw [e] at h2 hset
            exact ⟨k + 1, by omega, rfl, by go_num, by rw [flat_step hlt HS.out]; exact hset, hnx, notin_step hlt HS.out HNO.out h2⟩
    · go_wp2
      go_ret
      have e := List.take_of_length_le (l := ids) (i := k) (by omega)
      have h1 := hset.1
      have h2 := HNO.out
      rw [e] at h1 h2
      exact ⟨true, rfl, hnx, fun _ => ⟨h1, h2⟩⟩

end Go.Proofs.Qxb6601503a
