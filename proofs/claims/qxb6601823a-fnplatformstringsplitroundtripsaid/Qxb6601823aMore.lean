/-
  Walks: the bound on the bytes, the making of the struct, its text, the cutting of a text.
-/
import Derived.Test.Qxb6601823aParts
namespace Go.Proofs.Qxb6601823a
open Go.RowKit
set_option linter.unusedVariables false
attribute [local go_sem] bs_toList bs_size extract_bs

/-- What the bound on the bytes gives. -/
structure Small (arch os variant : Str) (l3 l5 : List Str) : Prop where
  arch : arch.length ≤ 1048576
  os : os.length ≤ 1048576
  variant : variant.length ≤ 1048576
  l3 : l3.length ≤ 1048576
  l5 : l5.length ≤ 1048576

set_option maxRecDepth 100000 in
set_option maxHeartbeats 2000000 in
theorem bytes_any (w : World) (arch os ver variant : Str) (v3 v5 : Value) (l3 l5 : List Str) (h3 : SV w v3 l3) (h5 : SV w v5 l5)
    (ha : arch.length ≤ maxLen) (ho : os.length ≤ maxLen) (hv : ver.length ≤ maxLen) (hvr : variant.length ≤ maxLen) :
    Calls Try.prog 5 #[.string (bs arch), .string (bs os), .string (bs ver), v3, .string (bs variant), v5] w fun e w' => ∃ r : Bool, e = .returned (.bool r) ∧ w' = w ∧ (r = true → Small arch os variant l3 l5) := by
  unfold maxLen at ha ho hv hvr
  obtain ⟨a3, c3, rfl⟩ := h3.len
  obtain ⟨a5, c5, rfl⟩ := h5.len
  have hl3 := h3.le
  have hl5 := h5.le
  go_enter Try.func5, Try.ntmps5
  go_wp2
  all_goals first | (go_ret; exact ⟨false, rfl, rfl, fun h => by cases h⟩) | skip
  go_loopg [13, 14] (l3.length) (fun g t i wr => ∃ (k : Nat) (T : Int), k ≤ l3.length ∧ g = l3.length - k ∧ i = .int .i64 k ∧ t = .int .i64 T ∧ wr = w ∧ 0 ≤ T ∧ T ≤ 1048576)
  case atStart => exact ⟨0, _, by omega, by omega, rfl, rfl, rfl, by omega, by omega⟩
  case round =>
    obtain ⟨k, T, hk, rfl, rfl, rfl, rfl, hT0, hT1⟩ := hrel
    by_cases hlt : k < l3.length
    · obtain ⟨b, off, s, rfl, hb, HS, hsl, hck⟩ := h3.get hlt
      have hsl' : s.length ≤ 9223372036854775807 := hsl
      clear hsl
      go_wp2
      · go_ret
        exact ⟨false, rfl, rfl, fun h => by cases h⟩
      · go_ret
        exact ⟨false, rfl, rfl, fun h => by cases h⟩
      · go_roundg (l3.length - (k + 1))
        case measure => omega
        case rel => exact ⟨k + 1, _, by omega, rfl, by go_num, rfl, rfl, by omega, by omega⟩
    · go_wp2
      all_goals first | (go_ret; exact ⟨false, rfl, rfl, fun h => by cases h⟩) | skip
      have HSM : Hid (Small arch os variant l3 l5) := ⟨by omega, by omega, by omega, by omega, by omega⟩
      go_loopg [13, 15] (l5.length) (fun g t i wr' => ∃ (k : Nat) (T : Int), k ≤ l5.length ∧ g = l5.length - k ∧ i = .int .i64 k ∧ t = .int .i64 T ∧ wr' = wr ∧ 0 ≤ T ∧ T ≤ 1048576)
      case atStart => exact ⟨0, _, by omega, by omega, rfl, rfl, rfl, by omega, by omega⟩
      case round =>
        obtain ⟨k, T, hk, rfl, rfl, rfl, rfl, hT0, hT1⟩ := hrel
        by_cases hlt : k < l5.length
        · obtain ⟨b, off, s, rfl, hb, HS, hsl, hck⟩ := h5.get hlt
          have hsl' : s.length ≤ 9223372036854775807 := hsl
          clear hsl
          go_wp2
          · go_ret
            exact ⟨false, rfl, rfl, fun h => by cases h⟩
          · go_ret
            exact ⟨false, rfl, rfl, fun h => by cases h⟩
          · go_roundg (l5.length - (k + 1))
            case measure => omega
            case rel => exact ⟨k + 1, _, by omega, rfl, by go_num, rfl, rfl, by omega, by omega⟩
        · go_wp2
          go_ret
          exact ⟨true, rfl, rfl, fun _ => HSM.out⟩

set_option maxHeartbeats 400000 in
theorem make_any (w : World) (arch os ver variant : Str) (a3 a5 : Option Addr) (n3 n5 c3 c5 : Nat) :
    Calls Try.prog 9 #[.string (bs arch), .string (bs os), .string (bs ver), .slice a3 n3 c3, .string (bs variant), .slice a5 n5 c5] w fun e w' => e = .returned (.agg #[.string (bs arch), .string (bs os), .string (bs ver), .slice a3 n3 c3, .string (bs variant), .slice a5 n5 c5]) ∧ Below w.heap.size w w' := by
  go_enter Try.func9, Try.ntmps9
  go_wp2
  exact bodyPost_ret (v := .agg #[.string (bs arch), .string (bs os), .string (bs ver), .slice a3 n3 c3, .string (bs variant), .slice a5 n5 c5]) (by simp [results, Try.results9, go_sem]) rfl ⟨rfl, (Below.refl _ _).alloc (Nat.le_refl _) _⟩

theorem ret_str {a b : ByteArray} (h : a = b) : Ending.returned (.string a) = .returned (.string b) := by rw [h]

theorem text_bs2 (os arch : Str) : bs os ++ (⟨#[47]⟩ : ByteArray) ++ bs arch = bs (text os arch []) := by
  have e : (⟨#[47]⟩ : ByteArray) = bs [47] := rfl
  rw [e, bs_append, bs_append, text, if_pos rfl]
  simp

theorem text_bs3 {os arch variant : Str} (h : variant ≠ []) : bs os ++ (⟨#[47]⟩ : ByteArray) ++ bs arch ++ ((⟨#[47]⟩ : ByteArray) ++ bs variant) = bs (text os arch variant) := by
  have e : (⟨#[47]⟩ : ByteArray) = bs [47] := rfl
  rw [e, bs_append, bs_append, bs_append, bs_append, text, if_neg h]
  simp

set_option maxHeartbeats 400000 in
theorem string_any (w : World) (arch os ver variant : Str) (a3 a5 : Option Addr) (n3 n5 c3 c5 : Nat) (h1 : arch.length ≤ 1048576) (h2 : os.length ≤ 1048576) (h3 : variant.length ≤ 1048576) :
    Calls Try.prog 11 #[.agg #[.string (bs arch), .string (bs os), .string (bs ver), .slice a3 n3 c3, .string (bs variant), .slice a5 n5 c5]] w fun e w' => e = .returned (.string (bs (text os arch variant))) ∧ Below w.heap.size w w' := by
  by_cases hv : variant = []
  · subst hv
    go_enter Try.func11, Try.ntmps11
    go_wp2
    go_ret
    exact ⟨ret_str (text_bs2 os arch), (Below.refl _ _).alloc (Nat.le_refl _) _⟩
  · have hb : variant.isEmpty = false := by simp [hv]
    have HV := hide hv
    clear hv
    go_enter Try.func11, Try.ntmps11
    go_wp2
    go_ret
    exact ⟨ret_str (text_bs3 HV.out), (Below.refl _ _).alloc (Nat.le_refl _) _⟩

/-- What holds of the pieces so far: what is still to come completes them. -/
structure Cut (s : Str) (out : List Str) (start i : Nat) : Prop where
  le : start ≤ i
  len : out.length ≤ i
  whole : out ++ splitGo (piece s start i) (s.drop i) = splitGo [] s

theorem Cut.start (s : Str) : Cut s [] 0 0 := ⟨Nat.le_refl _, Nat.le_refl _, by simp [piece]⟩

theorem Cut.slash {s : Str} {out : List Str} {start i : Nat} (h : Cut s out start i) (hi : i < s.length) (hc : s[i] = 47) : Cut s (out ++ [piece s start i]) (i + 1) (i + 1) := by
  refine ⟨Nat.le_refl _, by have := h.len; simp; omega, ?_⟩
  rw [← h.whole, List.drop_eq_getElem_cons hi, splitGo, if_pos hc, piece_nil]
  simp

theorem Cut.plain {s : Str} {out : List Str} {start i : Nat} (h : Cut s out start i) (hi : i < s.length) (hc : s[i] ≠ 47) : Cut s out start (i + 1) := by
  refine ⟨by have := h.le; omega, by have := h.len; omega, ?_⟩
  rw [← h.whole, List.drop_eq_getElem_cons hi, splitGo, if_neg hc, piece_snoc h.le hi]

theorem Cut.ends {s : Str} {out : List Str} {start i : Nat} (h : Cut s out start i) (hi : s.length ≤ i) : out ++ [piece s start s.length] = splitGo [] s := by
  rw [← h.whole, List.drop_eq_nil_of_le hi, splitGo, piece_end hi, piece_end (Nat.le_refl _)]

theorem piece_len (s : Str) (a b : Nat) : (piece s a b).length ≤ s.length := by
  unfold piece
  rw [List.length_drop, List.length_take]
  omega

set_option maxHeartbeats 1000000 in
theorem split_any (w : World) (s : Str) (hs : s.length ≤ 4194304) :
    Calls Try.prog 10 #[.string (bs s)] w fun e w' => ∃ v, e = .returned v ∧ SV w' v (splitGo [] s) ∧ Below w.heap.size w w' := by
  obtain ⟨i0, hi, hz0, hz1, hz2⟩ := info_parts info9
  go_enter Try.func10, Try.ntmps10
  go_wp2
  go_loopg [3, 4, 5] (s.length) (fun g v st i wr => ∃ (k start : Nat) (out : List Str), k ≤ s.length ∧ g = s.length - k ∧ i = .int .i64 k ∧ st = .int .i64 start ∧ Stack wr w.heap.size v out ∧ Cut s out start k ∧ (∀ x ∈ out, x.length ≤ s.length) ∧ Below w.heap.size w wr)
  case atStart => exact ⟨0, 0, [], by omega, by omega, rfl, rfl, Stack.nil _ _, Cut.start s, by simp, Below.refl _ _⟩
  case round =>
    obtain ⟨k, start, out, hk, rfl, rfl, rfl, hst, hcut, hsz, hnx⟩ := hrel
    obtain ⟨va, vcap, rfl⟩ := hst.form
    have hle := hcut.le
    have hlen := hcut.len
    have HCUT := hide hcut
    have HSZ := hide hsz
    have hwsz := hnx.size
    clear hcut hsz
    by_cases hlt : k < s.length
    · go_wp2_with (at_builtin; refine wpList_append_own _ rfl _ _ 22 rfl w.heap.size 9 i0 (.string (bs [])) 1 16 Try.underlying22 hi hz0 hz1 hz2 rfl (by decide) _ _ _ rfl (hst.alloc _) ⟨wr.heap.size, 0, none⟩ 1 1 [.string (bs (piece s start k))] rfl rfl (cell_one_new _ _ _) (by simp [Value.oneCell']) (by unfold maxLen; omega) (by omega) (by simp; omega) ?_)
      · have hy := byte_yes hlt (by assumption)
        intro v4 w4 hown4 hg4 _
        have hst4 := Stack.appended (n := 0) hown4
        have hnx4 : Below w.heap.size w w4 := (hnx.alloc hnx.size _).grown hg4 (by simp; omega) (fun k hk => hst.rowGe k hk)
        have HC4 := hide (HCUT.out.slash hlt hy)
        clear hown4 hg4 hst hnx hy
        go_wp2
        go_roundg (s.length - (k + 1))
        case measure => omega
        case rel => exact ⟨k + 1, k + 1, out ++ [piece s start k], by omega, rfl, by go_num, by go_num, hst4, HC4.out, fun x hx => by
          simp only [List.mem_append, List.mem_singleton] at hx
          rcases hx with hx | rfl
          · exact HSZ.out x hx
          · exact piece_len _ _ _, hnx4⟩
      · go_roundg (s.length - (k + 1))
        case measure => omega
        case rel => exact ⟨k + 1, start, out, by omega, rfl, by go_num, rfl, hst, HCUT.out.plain hlt (byte_no hlt (by assumption)), HSZ.out, hnx⟩
    · go_wp2_with (at_builtin; refine wpList_append_own _ rfl _ _ 22 rfl w.heap.size 9 i0 (.string (bs [])) 1 16 Try.underlying22 hi hz0 hz1 hz2 rfl (by decide) _ _ _ rfl (hst.alloc _) ⟨wr.heap.size, 0, none⟩ 1 1 [.string (bs (piece s start s.length))] rfl rfl (cell_one_new _ _ _) (by simp [Value.oneCell']) (by unfold maxLen; omega) (by omega) (by simp; omega) ?_)
      intro v4 w4 hown4 hg4 _
      have hst4 := Stack.appended (n := 0) hown4
      have hnx4 : Below w.heap.size w w4 := (hnx.alloc hnx.size _).grown hg4 (by simp; omega) (fun k hk => hst.rowGe k hk)
      rw [HCUT.out.ends (by omega)] at hst4
      have hsz4 : ∀ x ∈ splitGo [] s, x.length ≤ maxLen := fun x hx => by
        rw [← HCUT.out.ends (by omega)] at hx
        simp only [List.mem_append, List.mem_singleton] at hx
        refine Nat.le_trans ?_ (show s.length ≤ maxLen by unfold maxLen; omega)
        rcases hx with hx | rfl
        · exact HSZ.out x hx
        · exact piece_len _ _ _
      have HSV := hide (hst4.sv hsz4)
      clear hown4 hg4 hst hnx hst4 hsz4
      go_wp2
      go_ret
      exact ⟨_, rfl, HSV.out, hnx4⟩

end Go.Proofs.Qxb6601823a
