/-
  Plain laws (a string cut at every slash) and the walks of the small functions.
-/
import Derived.Test.Qxb6601823aBase
namespace Go.Proofs.Qxb6601823a
open Go.RowKit
set_option linter.unusedVariables false
attribute [local go_sem] bs_toList bs_size

/-! ### a string cut at every slash -/
def splitGo : Str → Str → List Str
  | cur, [] => [cur]
  | cur, c :: r => if c = 47 then cur :: splitGo [] r else splitGo (cur ++ [c]) r

theorem splitGo_whole : ∀ (s cur : Str), (47 : UInt8) ∉ s → splitGo cur s = [cur ++ s]
  | [], cur, _ => by simp [splitGo]
  | c :: r, cur, h => by
    simp only [List.mem_cons, not_or] at h
    rw [splitGo, if_neg (fun e => h.1 e.symm), splitGo_whole r _ h.2]
    simp

theorem splitGo_cut : ∀ (s cur t : Str), (47 : UInt8) ∉ s → splitGo cur (s ++ 47 :: t) = (cur ++ s) :: splitGo [] t
  | [], cur, t, _ => by simp [splitGo]
  | c :: r, cur, t, h => by
    simp only [List.mem_cons, not_or] at h
    rw [List.cons_append, splitGo, if_neg (fun e => h.1 e.symm), splitGo_cut r _ t h.2]
    simp

/-- What the text of a platform is. -/
def text (os arch variant : Str) : Str := if variant = [] then os ++ 47 :: arch else os ++ 47 :: (arch ++ 47 :: variant)

theorem split_text2 {os arch : Str} (h1 : (47 : UInt8) ∉ os) (h2 : (47 : UInt8) ∉ arch) : splitGo [] (text os arch []) = [os, arch] := by
  rw [text, if_pos rfl, splitGo_cut _ _ _ h1, splitGo_whole _ _ h2]
  simp

theorem split_text3 {os arch variant : Str} (hv : variant ≠ []) (h1 : (47 : UInt8) ∉ os) (h2 : (47 : UInt8) ∉ arch) (h3 : (47 : UInt8) ∉ variant) : splitGo [] (text os arch variant) = [os, arch, variant] := by
  rw [text, if_neg hv, splitGo_cut _ _ _ h1, splitGo_cut _ _ _ h2, splitGo_whole _ _ h3]
  simp

/-- The piece between two places. -/
def piece (s : Str) (a b : Nat) : Str := (s.take b).drop a

theorem piece_nil (s : Str) (a : Nat) : piece s a a = [] := by
  unfold piece
  rw [List.drop_eq_nil_iff]
  rw [List.length_take]
  omega

theorem piece_snoc {s : Str} {a b : Nat} (hab : a ≤ b) (hb : b < s.length) : piece s a (b + 1) = piece s a b ++ [s[b]] := by
  unfold piece
  rw [List.take_succ_eq_append_getElem hb, List.drop_append_of_le_length (by rw [List.length_take]; omega)]

theorem piece_end {s : Str} {a b : Nat} (hb : s.length ≤ b) : piece s a b = s.drop a := by
  unfold piece
  rw [List.take_of_length_le hb]

theorem extract_bs (s : Str) (a b : Nat) : (bs s).extract a b = bs (piece s a b) := by
  unfold bs piece
  rw [ByteArray.extract_mk, List.drop_take]

theorem bs_append (s t : Str) : bs s ++ bs t = bs (s ++ t) := ByteArray.mk_append_mk s t

theorem byte_at {s : Str} {k : Nat} (hk : k < s.length) {h : k < (bs s).size} : (bs s)[k]'h = s[k] := by
  rfl

theorem byte_yes {s : Str} {k : Nat} (hk : k < s.length) {h : k < (bs s).size} (hb : (((((bs s)[k]'h).toNat : Nat) : Int) == 47) = true) : s[k] = 47 := by
  rw [byte_at hk, beq_iff_eq] at hb
  apply UInt8.toNat_inj.1
  have : (47 : UInt8).toNat = 47 := rfl
  omega

theorem byte_no {s : Str} {k : Nat} (hk : k < s.length) {h : k < (bs s).size} (hb : (((((bs s)[k]'h).toNat : Nat) : Int) == 47) = false) : s[k] ≠ 47 := by
  intro e
  rw [byte_at hk, e] at hb
  cases hb

theorem notin_snoc {s : Str} {k : Nat} (hk : k < s.length) (h : (47 : UInt8) ∉ s.take k) (hn : s[k] ≠ 47) : (47 : UInt8) ∉ s.take (k + 1) := by
  rw [List.take_succ_eq_append_getElem hk]
  simp only [List.mem_append, List.mem_singleton, not_or]
  exact ⟨h, fun e => hn e.symm⟩

set_option maxHeartbeats 400000 in
theorem noSlash_any (w : World) (s : Str) (hs : s.length ≤ maxLen) :
    Calls Try.prog 7 #[.string (bs s)] w fun e w' => e = .returned (.bool (decide ((47 : UInt8) ∉ s))) ∧ w' = w := by
  have hs' : s.length ≤ 9223372036854775807 := hs
  clear hs
  go_enter Try.func7, Try.ntmps7
  go_wp2
  go_loopg [3] (s.length) (fun g i wr => ∃ k : Nat, k ≤ s.length ∧ g = s.length - k ∧ i = .int .i64 k ∧ wr = w ∧ (47 : UInt8) ∉ s.take k)
  case atStart => exact ⟨0, by omega, by omega, rfl, rfl, by simp⟩
  case round =>
    obtain ⟨k, hk, rfl, rfl, rfl, hx⟩ := hrel
    have HX := hide hx
    clear hx
    by_cases hlt : k < s.length
    · go_wp2
      · go_ret
        have hy := byte_yes hlt (by assumption)
        exact ⟨ret_bool (decide_eq_false (by rw [Classical.not_not, ← hy]; exact List.getElem_mem hlt)).symm, rfl⟩
      · go_roundg (s.length - (k + 1))
        case measure => omega
        case rel => exact ⟨k + 1, by omega, rfl, by go_num, rfl, notin_snoc hlt HX.out (byte_no hlt (by assumption))⟩
    · go_wp2
      go_ret
      exact ⟨ret_bool (decide_eq_true (by have := HX.out; rwa [List.take_of_length_le (by omega)] at this)).symm, rfl⟩

set_option maxHeartbeats 400000 in
theorem clone_any (w : World) (iv : Value) (ids : List Str) (hids : SV w iv ids) (hsmall : ids.length ≤ 1048576) :
    Calls Try.prog 8 #[iv] w fun e w' => ∃ v, e = .returned v ∧ SV w' v ids ∧ Below w.heap.size w w' := by
  obtain ⟨i0, hi, hz0, hz1, hz2⟩ := info_parts info9
  obtain ⟨ia, icap, rfl⟩ := hids.len
  have hnil := fun W => Lib.run_eql_slice_nil (P := Try.prog) W 22 9 ia ids.length icap 0 0 Try.underlying22
  cases ia with
  | none =>
    go_enter Try.func8, Try.ntmps8
    go_wp2
    go_ret
    exact ⟨_, rfl, by rw [hids.nilEmpty]; exact SV.nil w, Below.refl _ _⟩
  | some a =>
    go_enter Try.func8, Try.ntmps8
    go_wp2_with (at_make; refine wpList_make_full _ rfl _ _ 22 rfl w.heap.size 9 i0 (.string (bs [])) 1 Try.underlying22 hi hz0 hz1 _ _ _ _ ids.length rfl rfl rfl rfl (by rw [hz2]; omega) (by unfold maxLen; omega) (Nat.le_refl _) ?_)
    intro w1 hown hg
    have hrow := made_row (ss := ids) rfl hown
    have hnx1 : Below w.heap.size w w1 := (Below.refl _ _).grown hg (Nat.le_refl _) (fun j hj => by cases hj)
    clear hown hg hnil
    go_wp2
    go_loopg [4] (ids.length) (fun g i wr => ∃ k : Nat, k ≤ ids.length ∧ g = ids.length - k ∧ i = .int .i64 k ∧ RowAt wr w.heap.size (part ids k) ∧ Below w.heap.size w wr)
    case atStart => exact ⟨0, by omega, by omega, rfl, hrow, hnx1⟩
    case round =>
      clear hrow hnx1
      obtain ⟨k, hk, rfl, rfl, hrow, hnx⟩ := hrel
      by_cases hlt : k < ids.length
      · obtain ⟨b, off, s, ha, hb, HS, hsl, hck0⟩ := hids.get hlt
        cases ha
        have hck : wr.cell? ⟨b, off + k, none⟩ = some (.string (bs s)) := (hnx.cell (p := ⟨b, off + k, none⟩) hb).trans hck0
        have hd : wr.cell? ⟨w.heap.size, k, none⟩ = some (.string (bs [])) := (hrow.cell k).trans (part_at hlt)
        have hf := hrow.frozen k
        go_wp2
        go_roundg (ids.length - (k + 1))
        case measure => omega
        case rel => exact ⟨k + 1, by omega, rfl, by go_num, by rw [← part_set hlt, ← HS.out]; exact hrow.set k _, hnx.setCell (Nat.le_refl _) _⟩
      · go_wp2
        go_ret
        rw [part_full (by omega)] at hrow
        exact ⟨_, rfl, hrow.sv (by unfold maxLen; omega) hids.size, hnx⟩

set_option maxHeartbeats 400000 in
theorem grow_any (w : World) (t n : Int) (ht : 0 ≤ t) (hn : 0 ≤ n) :
    Calls Try.prog 13 #[.int .i64 t, .int .i64 n] w fun e w' => ∃ r : Int, e = .returned (.int .i64 r) ∧ w' = w ∧ 0 ≤ r := by
  by_cases h1 : 1048576 < t
  · go_enter Try.func13, Try.ntmps13
    go_wp2
    go_ret
    exact ⟨_, rfl, rfl, by omega⟩
  · by_cases h2 : 1048576 < n
    · go_enter Try.func13, Try.ntmps13
      go_wp2
      go_ret
      exact ⟨_, rfl, rfl, by omega⟩
    · go_enter Try.func13, Try.ntmps13
      go_wp2
      go_ret
      exact ⟨_, rfl, rfl, by omega⟩

set_option maxHeartbeats 400000 in
theorem growList_any (w : World) (t : Int) (ht : 0 ≤ t) (iv : Value) (ids : List Str) (hids : SV w iv ids) :
    Calls Try.prog 14 #[.int .i64 t, iv] w fun e w' => ∃ r : Int, e = .returned (.int .i64 r) ∧ w' = w ∧ 0 ≤ r := by
  obtain ⟨ia, icap, rfl⟩ := hids.len
  have hil := hids.le
  by_cases hbig : 65536 < ids.length
  · have hb : (65536 : Int) < (ids.length : Int) := by omega
    go_enter Try.func14, Try.ntmps14
    go_wp2_with fail
    go_ret
    exact ⟨_, rfl, rfl, by omega⟩
  · have hb : ¬ (65536 : Int) < (ids.length : Int) := by omega
    go_enter Try.func14, Try.ntmps14
    go_wp2_with fail
    refine (grow_any _ _ _ ht (by omega)).mono ?_
    rintro e w' ⟨r, rfl, hw, hr⟩
    subst hw
    go_wp2_with fail
    go_loopg [0, 5] (ids.length) (fun g t i wr => ∃ (k : Nat) (T : Int), k ≤ ids.length ∧ g = ids.length - k ∧ i = .int .i64 k ∧ t = .int .i64 T ∧ wr = w' ∧ 0 ≤ T)
    case atStart => exact ⟨0, r, by omega, by omega, rfl, rfl, rfl, hr⟩
    case round =>
      obtain ⟨k, T, hk, rfl, rfl, rfl, rfl, hT⟩ := hrel
      by_cases hlt : k < ids.length
      · obtain ⟨b, off, s, rfl, hb, HS, hsl, hck⟩ := hids.get hlt
        by_cases hc : 1048576 < T
        · go_wp2_with fail
          go_ret
          exact ⟨_, rfl, rfl, hT⟩
        · go_wp2_with fail
          refine (grow_any _ _ _ hT (by omega)).mono ?_
          rintro e w2 ⟨r2, rfl, hw, hr2⟩
          subst hw
          go_wp2_with fail
          go_roundg (ids.length - (k + 1))
          case measure => omega
          case rel => exact ⟨k + 1, r2, by omega, rfl, by go_num, rfl, rfl, hr2⟩
      · go_wp2_with fail
        go_ret
        exact ⟨_, rfl, rfl, hT⟩

set_option maxHeartbeats 1000000 in
theorem size_any (w : World) (arch os ver variant : Str) (v3 v5 : Value) (l3 l5 : List Str) (h3 : SV w v3 l3) (h5 : SV w v5 l5) :
    Calls Try.prog 6 #[.string (bs arch), .string (bs os), .string (bs ver), v3, .string (bs variant), v5] w fun e w' => ∃ r : Int, e = .returned (.int .i64 r) ∧ w' = w := by
  go_enter Try.func6, Try.ntmps6
  go_wp2_with fail
  refine (grow_any _ _ _ (by omega) (by omega)).mono ?_
  rintro e w1 ⟨r1, rfl, hw, hr1⟩
  subst hw
  go_wp2_with fail
  refine (grow_any _ _ _ hr1 (by omega)).mono ?_
  rintro e w2 ⟨r2, rfl, hw, hr2⟩
  subst hw
  go_wp2_with fail
  refine (grow_any _ _ _ hr2 (by omega)).mono ?_
  rintro e w3 ⟨r3, rfl, hw, hr3⟩
  subst hw
  go_wp2_with fail
  refine (grow_any _ _ _ hr3 (by omega)).mono ?_
  rintro e w4 ⟨r4, rfl, hw, hr4⟩
  subst hw
  go_wp2_with fail
  refine (growList_any _ _ hr4 _ _ h3).mono ?_
  rintro e w5 ⟨r5, rfl, hw, hr5⟩
  subst hw
  go_wp2_with fail
  refine (growList_any _ _ hr5 _ _ h5).mono ?_
  rintro e w6 ⟨r6, rfl, hw, hr6⟩
  subst hw
  go_wp2_with fail
  go_ret
  exact ⟨_, rfl, rfl⟩

end Go.Proofs.Qxb6601823a
