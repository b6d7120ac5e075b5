/- The walks of blockCommentEnd and zzCommentClose. -/
import Derived.Test.Qxb6618184aPrefix
namespace Go.Proofs.Qxb6618184a
open Go.ChangeShapes Go.WideShapes Go.ChangeAt Go.RowKit Comment

set_option maxHeartbeats 1000000 in
theorem end_any (s : ByteArray) (i0 : Nat) (w : World) (hs : s.size ≤ 1048576) (h0 : at2 s.data.toList i0 47 42 = true) :
    Calls Try.prog 25 #[.string s, .int .i64 i0] w fun e w' => e = .returned (.int .i64 ((scan s.data.toList 1 (i0 + 2)).getD s.size : Nat)) ∧ w' = w := by
  have hi0 : i0 + 1 < s.size := at2_lt h0
  have H0 := hidden h0
  clear h0
  obtain ⟨R, hR⟩ : ∃ R, R = (scan s.data.toList 1 (i0 + 2)).getD s.size := ⟨_, rfl⟩
  rw [← hR]
  have HR := hidden hR
  clear hR
  go_enter Try.func25, Try.ntmps25
  go_wp2_with fail
  go_loop [5, 1] (fun dv iv => ∃ k d : Nat, k ≤ s.size ∧ d ≤ k ∧ iv = .int .i64 k ∧ dv = .int .i64 d ∧ Hid ((d = 0 ∧ k = i0) ∨ (1 ≤ d ∧ scan s.data.toList 1 (i0 + 2) = scan s.data.toList d k))) (fun _ iv => s.size - (intOf iv).toNat)
  case atStart => exact ⟨i0, 0, by omega, by omega, rfl, rfl, .inl ⟨rfl, rfl⟩⟩
  case round =>
    obtain ⟨k, d, hk, hd, rfl, rfl, H⟩ := hrel
    by_cases hlt : k < s.size
    · rcases Bool.eq_false_or_eq_true (at2 s.data.toList k 47 42) with hA | hA
      · have hk2 : k + 1 < s.size := at2_lt hA
        go_wp2_with (go_at_call 28; refine (hp_any _ _ _ _ _ hs).mono ?_; rintro e w' ⟨rfl, rfl⟩)
        go_round
        case rel =>
          refine ⟨k + 2, d + 1, by omega, by omega, by go_num, by go_num, .inr ⟨by omega, ?_⟩⟩
          rcases H.out with ⟨rfl, rfl⟩ | ⟨h1, h2⟩
          · rfl
          · rw [h2]; exact step_open hA
        case measure => simp [intOf]; omega
      · have hne : 1 ≤ d ∧ scan s.data.toList 1 (i0 + 2) = scan s.data.toList d k := by
          rcases H.out with ⟨rfl, rfl⟩ | h
          · rw [H0.out] at hA; exact absurd hA (by decide)
          · exact h
        have hd1 := hne.1
        have HS := hidden hne.2
        clear hne
        rcases Bool.eq_false_or_eq_true (at2 s.data.toList k 42 47) with hB | hB
        · have hk2 : k + 1 < s.size := at2_lt hB
          by_cases h1 : d = 1
          · subst h1
            go_wp2_with (go_at_call 28; refine (hp_any _ _ _ _ _ hs).mono ?_; rintro e w' ⟨rfl, rfl⟩)
            go_ret
            exact ⟨ret_int (by rw [HR.out, HS.out, step_close hB]; rfl), rfl⟩
          · obtain ⟨d', rfl⟩ : ∃ d', d = d' + 1 := ⟨d - 1, by omega⟩
            go_wp2_with (go_at_call 28; refine (hp_any _ _ _ _ _ hs).mono ?_; rintro e w' ⟨rfl, rfl⟩)
            go_round
            case rel => exact ⟨k + 2, d', by omega, by omega, by go_num, by go_num, .inr ⟨by omega, by rw [HS.out]; exact step_less hB (by omega)⟩⟩
            case measure => simp [intOf]; omega
        · go_wp2_with (go_at_call 28; refine (hp_any _ _ _ _ _ hs).mono ?_; rintro e w' ⟨rfl, rfl⟩)
          go_round
          case rel => exact ⟨k + 1, d, by omega, by omega, by go_num, rfl, .inr ⟨hd1, by rw [HS.out]; exact step_other hB hA⟩⟩
          case measure => simp [intOf]; omega
    · go_wp2_with fail
      go_ret
      refine ⟨ret_int ?_, rfl⟩
      rcases H.out with ⟨rfl, rfl⟩ | ⟨h1, h2⟩
      · exact absurd hi0 (by omega)
      · rw [HR.out, h2, scan_end _ _ _ (by rw [size_list]; omega)]; rfl

theorem zzend_any (s : ByteArray) (i0 : Nat) (w : World) (hs : s.size ≤ 1048576) (h0 : at2 s.data.toList i0 47 42 = true) :
    Calls Try.prog 11 #[.string s, .int .i64 i0] w fun e w' => e = .returned (.int .i64 ((scan s.data.toList 1 (i0 + 2)).getD s.size : Nat)) ∧ w' = w := by
  have H := hidden (end_any s i0 w hs h0)
  clear h0
  generalize (scan s.data.toList 1 (i0 + 2)).getD s.size = R at *
  go_enter Try.func11, Try.ntmps11
  go_wp2_with fail
  refine H.out.mono ?_
  rintro e w' ⟨rfl, rfl⟩
  go_wp2
  go_ret
  exact ⟨rfl, rfl⟩

theorem at2_bytes (s : ByteArray) (k : Nat) (c d : UInt8) (h : k + 1 < s.size) : at2 s.data.toList k c d = (((s[k].toNat : Int) == (c.toNat : Int)) && ((s[k + 1].toNat : Int) == (d.toNat : Int))) := by
  have hk : k < s.size := by omega
  rw [Bool.eq_iff_iff, at2_iff, Bool.and_eq_true, beq_iff_eq, beq_iff_eq]
  have e1 : s.data.toList[k]'(by rw [size_list]; omega) = s[k] := rfl
  have e2 : s.data.toList[k + 1]'(by rw [size_list]; omega) = s[k + 1] := rfl
  constructor
  · rintro ⟨_, h1, h2⟩
    rw [e1] at h1; rw [e2] at h2
    exact ⟨by rw [h1], by rw [h2]⟩
  · rintro ⟨h1, h2⟩
    refine ⟨by rw [size_list]; exact h, ?_, ?_⟩
    · rw [e1]; exact UInt8.toNat_inj.mp (Int.ofNat.inj h1)
    · rw [e2]; exact UInt8.toNat_inj.mp (Int.ofNat.inj h2)

set_option maxHeartbeats 1000000 in
theorem close_any (s : ByteArray) (hs : s.size ≤ 1048576) (n : Nat) : ∀ (j : Nat) (w : World), s.size - j ≤ n → j ≤ 1048576 →
    Calls Try.prog 10 #[.string s, .int .i64 j] w fun e w' => e = .returned (.int .i64 (cc s.data.toList (j + 2))) ∧ w' = w := by
  induction n with
  | zero =>
    intro j w hn hj
    have HC := hidden (cc_none (scan_end s.data.toList 1 (j + 2) (by rw [size_list]; omega)))
    go_enter Try.func10, Try.ntmps10
    go_wp2_with fail
    refine wp_loop_rounds 1 ?_
    rw [rounds_succ]
    go_wp2_with fail
    go_ret
    exact ⟨ret_int HC.out.symm, rfl⟩
  | succ n ih =>
    intro j w hn hj
    have IH := hidden ih
    clear ih
    obtain ⟨R, hR⟩ : ∃ R, R = cc s.data.toList (j + 2) := ⟨_, rfl⟩
    rw [← hR]
    have HR := hidden hR
    clear hR
    go_enter Try.func10, Try.ntmps10
    go_wp2_with fail
    go_loop [1] (fun iv => ∃ k : Nat, j + 2 ≤ k ∧ k ≤ s.size + j + 2 ∧ iv = .int .i64 k ∧ Hid (scan s.data.toList 1 (j + 2) = scan s.data.toList 1 k)) (fun iv => s.size - (intOf iv).toNat)
    case atStart => exact ⟨j + 2, by omega, by omega, by go_num, rfl⟩
    case round =>
      obtain ⟨k, hk0, hk1, rfl, H⟩ := hrel
      by_cases hlt : k < s.size
      · by_cases h2 : k + 1 < s.size
        · have HA := hidden (at2_bytes s k 42 47 h2)
          have HB := hidden (at2_bytes s k 47 42 h2)
          rcases Bool.eq_false_or_eq_true ((s[k].toNat : Int) == 42) with x1 | x1
          · have x2 : ((s[k].toNat : Int) == 47) = false := by simp at x1 ⊢; omega
            rcases Bool.eq_false_or_eq_true ((s[k + 1].toNat : Int) == 47) with y1 | y1
            · have hclose : at2 s.data.toList k 42 47 = true := HA.out.trans (by show (((s[k].toNat : Int) == 42) && ((s[k + 1].toNat : Int) == 47)) = true; rw [x1, y1]; rfl)
              have HQ := hidden (step_close hclose)
              clear hclose
              go_wp2_with fail
              go_ret
              exact ⟨ret_int (by rw [HR.out, cc, H.out, HQ.out]; rfl), rfl⟩
            · have hA : at2 s.data.toList k 42 47 = false := HA.out.trans (by show (((s[k].toNat : Int) == 42) && ((s[k + 1].toNat : Int) == 47)) = false; rw [x1, y1]; rfl)
              have hB : at2 s.data.toList k 47 42 = false := HB.out.trans (by show (((s[k].toNat : Int) == 47) && ((s[k + 1].toNat : Int) == 42)) = false; rw [x2]; rfl)
              have HQ := hidden (H.out.trans (step_other hA hB))
              clear hA hB
              go_wp2_with fail
              go_round
              case rel => exact ⟨k + 1, by omega, by omega, by go_num, HQ.out⟩
              case measure => simp [intOf]; omega
          · have hA : at2 s.data.toList k 42 47 = false := HA.out.trans (by show (((s[k].toNat : Int) == 42) && ((s[k + 1].toNat : Int) == 47)) = false; rw [x1]; rfl)
            rcases Bool.eq_false_or_eq_true ((s[k].toNat : Int) == 47) with x2 | x2
            · rcases Bool.eq_false_or_eq_true ((s[k + 1].toNat : Int) == 42) with y2 | y2
              · have hB : at2 s.data.toList k 47 42 = true := HB.out.trans (by show (((s[k].toNat : Int) == 47) && ((s[k + 1].toNat : Int) == 42)) = true; rw [x2, y2]; rfl)
                cases hsc : scan s.data.toList 1 (k + 2) with
                | none =>
                  have HQ := hidden (H.out.trans (step_nest_none hB hsc))
                  have hcc := cc_none hsc
                  clear hA hB hsc
                  go_wp2_with (go_at_call 10; refine (IH.out k _ (by omega) (by omega)).mono ?_; rintro e w' ⟨rfl, rfl⟩)
                  go_ret
                  exact ⟨ret_int (by rw [HR.out, cc_none HQ.out]), rfl⟩
                | some e0 =>
                  have HQ := hidden (H.out.trans (step_nest_some hB hsc))
                  have hcc := cc_some hsc
                  have he := scan_range s.data.toList s.data.toList.length (k + 2) 1 e0 (by omega) hsc
                  rw [size_list] at he
                  clear hA hB hsc
                  go_wp2_with (go_at_call 10; refine (IH.out k _ (by omega) (by omega)).mono ?_; rintro e w' ⟨rfl, rfl⟩)
                  go_round
                  case rel => exact ⟨e0, by omega, by omega, rfl, HQ.out⟩
                  case measure => simp [intOf]; omega
              · have hB : at2 s.data.toList k 47 42 = false := HB.out.trans (by show (((s[k].toNat : Int) == 47) && ((s[k + 1].toNat : Int) == 42)) = false; rw [x2, y2]; rfl)
                have HQ := hidden (H.out.trans (step_other hA hB))
                clear hA hB
                go_wp2_with fail
                go_round
                case rel => exact ⟨k + 1, by omega, by omega, by go_num, HQ.out⟩
                case measure => simp [intOf]; omega
            · have hB : at2 s.data.toList k 47 42 = false := HB.out.trans (by show (((s[k].toNat : Int) == 47) && ((s[k + 1].toNat : Int) == 42)) = false; rw [x2]; rfl)
              have HQ := hidden (H.out.trans (step_other hA hB))
              clear hA hB
              go_wp2_with fail
              go_round
              case rel => exact ⟨k + 1, by omega, by omega, by go_num, HQ.out⟩
              case measure => simp [intOf]; omega
        · have HQ := hidden (H.out.trans (scan_last s.data.toList 1 k (by rw [size_list]; omega)))
          go_wp2_with fail
          go_round
          case rel => exact ⟨k + 1, by omega, by omega, by go_num, HQ.out⟩
          case measure => simp [intOf]; omega
      · go_wp2_with fail
        go_ret
        exact ⟨ret_int (by rw [HR.out, cc, H.out, scan_end _ _ _ (by rw [size_list]; omega)]), rfl⟩
end Go.Proofs.Qxb6618184a
