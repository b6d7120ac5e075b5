/- The walks of firstNonZero, compareBytes, fitsUint64Decimal, compareDecimal. -/
import Derived.Test.Qxb6617574aValue
import Derived.Deep.QuietTactic
import Derived.BigQuiet
namespace Go.Proofs.Qxb6617574a
open Go.ChangeShapes Go.WideShapes Go.ChangeAt Go.RowKit Money

theorem lz_at_end (l : List UInt8) (k : Nat) (h : l.length ≤ k) : lz (l.drop k) = 0 := by
  rw [List.drop_of_length_le h]; rfl
theorem lz_hit (s : ByteArray) (k : Nat) (h : k < s.size) (h0 : ((s[k].toNat : Int) == 48) = true) : lz (s.data.toList.drop k) = 1 + lz (s.data.toList.drop (k + 1)) := by
  have h0 : (s[k].toNat : Int) = 48 := by simpa using h0
  rw [drop_cons s k h, lz, List.takeWhile_cons, if_pos (by
    have : s[k] = 48 := UInt8.toNat_inj.mp (by simpa using Int.ofNat.inj h0)
    simp [this])]
  rw [List.length_cons, Nat.add_comm]; rfl
theorem lz_miss (s : ByteArray) (k : Nat) (h : k < s.size) (h0 : ((s[k].toNat : Int) == 48) = false) : lz (s.data.toList.drop k) = 0 := by
  have h0 : ¬ (s[k].toNat : Int) = 48 := by simpa using h0
  rw [drop_cons s k h, lz, List.takeWhile_cons, if_neg (by
    intro e
    have e : s[k] = 48 := by simpa using e
    exact h0 (by rw [e]; rfl))]
  rfl
theorem lz_le (l : List UInt8) : lz l ≤ l.length := by
  unfold lz; exact List.Sublist.length_le (List.takeWhile_sublist _)

set_option maxHeartbeats 400000 in
theorem first_any (s : ByteArray) (w : World) (hs : s.size ≤ maxLen) :
    Calls Try.prog 13 #[.string s] w fun e w' => e = .returned (.int .i64 (lz s.data.toList)) ∧ w' = w := by
  unfold maxLen at hs
  go_enter Try.func13, Try.ntmps13
  go_wp2
  go_loop [3] (fun i => ∃ k : Nat, k ≤ s.size ∧ i = .int .i64 k ∧ Hid (lz s.data.toList = k + lz (s.data.toList.drop k))) (fun i => s.size - (intOf i).toNat)
  case atStart => exact ⟨0, Nat.zero_le _, rfl, by rw [List.drop_zero, Nat.zero_add]; rfl⟩
  case round =>
    obtain ⟨k, hk, rfl, H⟩ := hrel
    by_cases hlt : k < s.size
    · go_wp2
      · go_round
        case rel => exact ⟨k + 1, by omega, by go_num, show _ = _ from by rw [H.out, lz_hit s k hlt (by assumption)]; omega⟩
        case measure => simp [intOf]; omega
      · go_ret
        exact ⟨ret_int (by rw [H.out, lz_miss s k hlt (by assumption)]; omega), rfl⟩
    · go_wp2
      go_ret
      exact ⟨ret_int (by rw [H.out, lz_at_end _ _ (by rw [size_list]; omega)]; omega), rfl⟩

theorem cmpB_lt (s t : ByteArray) (k : Nat) (h1 : k < s.size) (h2 : k < t.size) (h : s[k].toNat < t[k].toNat) : cmpB (s.data.toList.drop k) (t.data.toList.drop k) = -1 := by
  rw [drop_cons s k h1, drop_cons t k h2, cmpB, if_pos (UInt8.lt_iff_toNat_lt.mpr (by omega))]
theorem cmpB_gt (s t : ByteArray) (k : Nat) (h1 : k < s.size) (h2 : k < t.size) (h : t[k].toNat < s[k].toNat) : cmpB (s.data.toList.drop k) (t.data.toList.drop k) = 1 := by
  rw [drop_cons s k h1, drop_cons t k h2, cmpB, if_neg (by rw [UInt8.lt_iff_toNat_lt]; omega), if_pos (UInt8.lt_iff_toNat_lt.mpr (by omega))]
theorem cmpB_eq (s t : ByteArray) (k : Nat) (h1 : k < s.size) (h2 : k < t.size) (h : ¬ s[k].toNat < t[k].toNat) (h' : ¬ t[k].toNat < s[k].toNat) : cmpB (s.data.toList.drop k) (t.data.toList.drop k) = cmpB (s.data.toList.drop (k + 1)) (t.data.toList.drop (k + 1)) := by
  rw [drop_cons s k h1, drop_cons t k h2, cmpB, if_neg (by rw [UInt8.lt_iff_toNat_lt]; omega), if_neg (by rw [UInt8.lt_iff_toNat_lt]; omega)]
theorem cmpB_short (s t : ByteArray) (k : Nat) (h1 : s.size ≤ k) (h2 : k < t.size) : cmpB (s.data.toList.drop k) (t.data.toList.drop k) = -1 := by
  rw [List.drop_of_length_le (by rw [size_list]; omega), drop_cons t k h2, cmpB]
theorem cmpB_long (s t : ByteArray) (k : Nat) (h1 : k < s.size) (h2 : t.size ≤ k) : cmpB (s.data.toList.drop k) (t.data.toList.drop k) = 1 := by
  rw [drop_cons s k h1, List.drop_of_length_le (l := t.data.toList) (by rw [size_list]; omega), cmpB]
theorem cmpB_both (s t : ByteArray) (k : Nat) (h1 : s.size ≤ k) (h2 : t.size ≤ k) : cmpB (s.data.toList.drop k) (t.data.toList.drop k) = 0 := by
  rw [List.drop_of_length_le (by rw [size_list]; omega), List.drop_of_length_le (by rw [size_list]; omega), cmpB]

set_option maxHeartbeats 800000 in
theorem cmp_any (s t : ByteArray) (w : World) (hs : s.size ≤ maxLen) :
    Calls Try.prog 14 #[.string s, .string t] w fun e w' => e = .returned (.int .i64 (cmpB s.data.toList t.data.toList)) ∧ ∃ n, w' = w.drewN n := by
  unfold maxLen at hs
  go_enter Try.func14, Try.ntmps14
  go_wp2
  go_loopw [5] (fun i wr => ∃ k m : Nat, k ≤ s.size ∧ k ≤ t.size ∧ i = .int .i64 k ∧ Hid (cmpB s.data.toList t.data.toList = cmpB (s.data.toList.drop k) (t.data.toList.drop k)) ∧ wr = w.drewN m) (fun i _ => s.size - (intOf i).toNat)
  case atStart => exact ⟨0, 0, Nat.zero_le _, Nat.zero_le _, rfl, by rw [List.drop_zero, List.drop_zero]; rfl, rfl⟩
  case round =>
    obtain ⟨k, m, hk, hk2, rfl, H, rfl⟩ := hrel
    by_cases h1 : k < s.size
    · by_cases h2 : k < t.size
      · go_wp2
        go_quiet (fail)
        go_wp2
        · go_ret
          exact ⟨ret_int (by rw [H.out, cmpB_lt s t k h1 h2 (by assumption)]), _, World.drewN_drewN _ _ _⟩
        · go_quiet (fail)
          go_wp2
          · go_ret
            exact ⟨ret_int (by rw [H.out, cmpB_gt s t k h1 h2 (by assumption)]), _, by rw [World.drewN_drewN, World.drewN_drewN]⟩
          · go_roundw
            case rel => exact ⟨k + 1, _, by omega, by omega, by go_num, show _ = _ from by rw [H.out, cmpB_eq s t k h1 h2 (by assumption) (by assumption)], rfl⟩
            case measure => simp [intOf]; omega
      · go_wp2
        go_ret
        exact ⟨ret_int (by rw [H.out, cmpB_long s t k h1 (by omega)]), _, rfl⟩
    · by_cases h2 : k < t.size
      · go_wp2
        go_ret
        exact ⟨ret_int (by rw [H.out, cmpB_short s t k (by omega) h2]), _, rfl⟩
      · go_wp2
        go_ret
        exact ⟨ret_int (by rw [H.out, cmpB_both s t k (by omega) (by omega)]), _, rfl⟩

theorem dig_take (s : ByteArray) (k : Nat) (h : k < s.size) (h0 : (s.data.toList.take k).all isDig = true) (h1 : ¬ (s[k].toNat : Int) < 48) (h2 : ¬ (57 : Int) < (s[k].toNat : Int)) : (s.data.toList.take (k + 1)).all isDig = true := by
  rw [take_snoc s k h, List.all_append, h0]
  simp [isDig, UInt8.le_iff_toNat_le]; omega
theorem dig_bad (s : ByteArray) (k : Nat) (h : k < s.size) (h1 : (s[k].toNat : Int) < 48 ∨ (57 : Int) < (s[k].toNat : Int)) : fits s.data.toList = false := by
  have : s.data.toList.all isDig = false := by
    rw [List.all_eq_false]
    refine ⟨s[k], ?_, ?_⟩
    · exact (List.getElem_mem (l := s.data.toList) (n := k) (by simpa using h) :)
    · simp [isDig, UInt8.le_iff_toNat_le]; omega
  unfold fits
  rw [this]; rfl
theorem fits_dig (l : List UInt8) (h : l.all isDig = true) : fits l = (if (strip l).length < 20 then true else if 20 < (strip l).length then false else decide (cmpB (strip l) maxL ≤ 0)) := by
  unfold fits; rw [h, Bool.true_and]
theorem strip_len (s : ByteArray) : (strip s.data.toList).length = s.size - lz s.data.toList := by
  rw [strip, List.length_drop, size_list]
theorem strip_take (s : ByteArray) : List.take (s.size - lz s.data.toList) (List.drop (lz s.data.toList) s.data.toList) = strip s.data.toList := by
  rw [strip]; exact List.take_of_length_le (by rw [List.length_drop, size_list]; exact Nat.le_refl _)
theorem dig_all (s : ByteArray) (k : Nat) (hk : ¬ k < s.size) (h : (s.data.toList.take k).all isDig = true) : s.data.toList.all isDig = true := by
  rwa [List.take_of_length_le (by rw [size_list]; omega)] at h

set_option maxHeartbeats 800000 in
theorem fits_any (s : ByteArray) (w : World) (hs : s.size ≤ maxLen) :
    Calls Try.prog 10 #[.string s] w fun e w' => e = .returned (.bool (fits s.data.toList)) ∧ ∃ n, w' = w.drewN n := by
  have hl := lz_le s.data.toList
  rw [size_list] at hl
  unfold maxLen at hs
  go_enter Try.func10, Try.ntmps10
  go_wp2
  go_loop [3] (fun i => ∃ k : Nat, k ≤ s.size ∧ i = .int .i64 k ∧ Hid ((s.data.toList.take k).all isDig = true)) (fun i => s.size - (intOf i).toNat)
  case atStart => exact ⟨0, Nat.zero_le _, rfl, by rfl⟩
  case round =>
    obtain ⟨k, hk, rfl, H⟩ := hrel
    by_cases hlt : k < s.size
    · go_wp2
      · go_ret
        exact ⟨ret_bool (by rw [dig_bad s k hlt (by assumption)]), 0, rfl⟩
      · go_round
        case rel => exact ⟨k + 1, by omega, by go_num, dig_take s k hlt H.out (by omega) (by omega)⟩
        case measure => simp [intOf]; omega
      · go_ret
        exact ⟨ret_bool (by rw [dig_bad s k hlt (.inl (by assumption))]), 0, rfl⟩
    · have HF : Hid (fits s.data.toList = _) := fits_dig _ (dig_all s k hlt H.out)
      rw [strip_len] at HF
      by_cases h20 : s.size - lz s.data.toList < 20
      · go_wp2_with (go_at_call 13; refine (first_any _ _ (by unfold maxLen; omega)).mono ?_; rintro e w' ⟨rfl, rfl⟩)
        go_ret
        exact ⟨ret_bool (by rw [HF.out, if_pos h20]), 0, rfl⟩
      · by_cases h21 : 20 < s.size - lz s.data.toList
        · go_wp2_with (go_at_call 13; refine (first_any _ _ (by unfold maxLen; omega)).mono ?_; rintro e w' ⟨rfl, rfl⟩)
          go_ret
          exact ⟨ret_bool (by rw [HF.out, if_neg h20, if_pos h21]), 0, rfl⟩
        · go_wp2_with (first | (go_at_call 13; refine (first_any _ _ (by unfold maxLen; omega)).mono ?_; rintro e w' ⟨rfl, rfl⟩) | (go_at_call 14; refine (cmp_any _ _ _ (by unfold maxLen; simp; omega)).mono ?_; rintro e w' ⟨rfl, nq, rfl⟩))
          go_ret
          exact ⟨ret_bool (by rw [HF.out, if_neg h20, if_neg h21, strip_take]; rfl), _, rfl⟩

theorem cmpD_eq (s t : ByteArray) : cmpD s.data.toList t.data.toList = if s.size - lz s.data.toList < t.size - lz t.data.toList then -1 else if t.size - lz t.data.toList < s.size - lz s.data.toList then 1 else cmpB (strip s.data.toList) (strip t.data.toList) := by
  rw [cmpD, strip_len, strip_len]

set_option maxHeartbeats 800000 in
theorem cmpD_any (s t : ByteArray) (w : World) (hs : s.size ≤ maxLen) (ht : t.size ≤ maxLen) :
    Calls Try.prog 11 #[.string s, .string t] w fun e w' => e = .returned (.int .i64 (cmpD s.data.toList t.data.toList)) ∧ ∃ n, w' = w.drewN n := by
  have hl := lz_le s.data.toList
  rw [size_list] at hl
  have hl2 := lz_le t.data.toList
  rw [size_list] at hl2
  unfold maxLen at hs ht
  by_cases h1 : s.size - lz s.data.toList < t.size - lz t.data.toList
  · go_enter Try.func11, Try.ntmps11
    go_wp2_with (go_at_call 13; refine (first_any _ _ (by unfold maxLen; omega)).mono ?_; rintro e w' ⟨rfl, rfl⟩)
    go_ret
    exact ⟨ret_int (by rw [cmpD_eq, if_pos h1]), 0, rfl⟩
  · by_cases h2 : t.size - lz t.data.toList < s.size - lz s.data.toList
    · go_enter Try.func11, Try.ntmps11
      go_wp2_with (go_at_call 13; refine (first_any _ _ (by unfold maxLen; omega)).mono ?_; rintro e w' ⟨rfl, rfl⟩)
      go_ret
      exact ⟨ret_int (by rw [cmpD_eq, if_neg h1, if_pos h2]), 0, rfl⟩
    · go_enter Try.func11, Try.ntmps11
      go_wp2_with (first | (go_at_call 13; refine (first_any _ _ (by unfold maxLen; omega)).mono ?_; rintro e w' ⟨rfl, rfl⟩) | (go_at_call 14; refine (cmp_any _ _ _ (by unfold maxLen; simp; omega)).mono ?_; rintro e w' ⟨rfl, nq, rfl⟩))
      go_ret
      exact ⟨ret_int (by rw [cmpD_eq, if_neg h1, if_neg h2, strip_take, strip_take]), _, rfl⟩
end Go.Proofs.Qxb6617574a
