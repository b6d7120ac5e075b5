/- The proof of Rows.FnAllowedCountWindowSaid: the walk of the law out of the callees' contracts (Runes, Count); the frame is the kit's template at this function. -/
import Derived.Test.Qxb6618057aRows
import Derived.WalkKit
import Derived.ProofKit
import Derived.OpenShut
import Derived.ShutString
import Derived.Test.Qxb6618057aCount
namespace Go.Proofs.Qxb6618057a.fnAllowedCountWindow
open Go.ChangeShapes Go.WideShapes Go.ChangeAt Go.RowKit
open Go.ChangeMaps (open_string shut_string)
set_option linter.unusedVariables false      -- a walk need not use every 'w<i>' (that an integer argument fits its kind)

theorem own : ownKnob Try.prog.godebug = none := by kernel_rfl

set_option maxHeartbeats 1000000 in
theorem small (lo : Int) (n : Nat) (w : World) (h0 : -2147483648 ≤ lo) (h1 : lo ≤ 2147483647) (hn : n ≤ 65536) (ht : lo + n ≤ 2147483648) :
    Calls Try.prog 5 #[.int .i32 lo, .int .i64 n] w fun e w' => e = .returned (.bool true) ∧ w' = w := by
  go_enter Try.func5, Try.ntmps5
  go_wp2_with fail
  go_loop [5, 6] (fun c i => ∃ k : Nat, k ≤ n ∧ i = .int .i64 k ∧ c = .int .i64 (cnt lo k)) (fun _ i => n - (intOf i).toNat)
  case atStart => exact ⟨0, Nat.zero_le _, rfl, rfl⟩
  case round =>
    obtain ⟨k, hk, rfl, rfl⟩ := hrel
    have hc := cnt_bd lo k
    by_cases hlt : k < n
    · by_cases ha : alw (lo + k) = true
      · go_wp2_with (go_at_call 12; refine (zzallowed_any _ _ (by omega) (by omega)).mono ?_; rintro e w' ⟨rfl, rfl⟩)
        go_round
        case rel => exact ⟨k + 1, by omega, by go_num, val_int (by rw [cnt_yes lo k ha])⟩
        case measure => simp [intOf]; omega
      · have ha' : alw (lo + k) = false := by simpa using ha
        clear ha
        go_wp2_with (go_at_call 12; refine (zzallowed_any _ _ (by omega) (by omega)).mono ?_; rintro e w' ⟨rfl, rfl⟩)
        go_round
        case rel => exact ⟨k + 1, by omega, by go_num, val_int (by rw [cnt_no lo k ha'])⟩
        case measure => simp [intOf]; omega
    · obtain rfl : k = n := by omega
      have o1 := ovl_bd lo (lo + k - 1) 0 1114111 (by omega)
      have o2 := ovl_bd lo (lo + k - 1) 55296 57343 (by omega)
      have o3 := ovl_bd lo (lo + k - 1) 0 31 (by omega)
      have o4 := ovl_bd lo (lo + k - 1) 127 159 (by omega)
      have o5 := ovl_bd lo (lo + k - 1) 9 9 (by omega)
      have o6 := ovl_bd lo (lo + k - 1) 10 10 (by omega)
      have o7 := ovl_bd lo (lo + k - 1) 13 13 (by omega)
      have o8 := ovl_bd lo (lo + k - 1) 133 133 (by omega)
      have o9 := ovl_bd lo (lo + k - 1) 65534 65535 (by omega)
      go_wp2_with (go_at_call 13; refine (overlap_any _ _ _ _ _ (by omega) (by omega) (by omega) (by omega)).mono ?_; rintro e w' ⟨rfl, rfl⟩)
      go_ret
      exact ⟨ret_bool (window_eq lo k), rfl⟩

/-! ### STEP 1: THE WALK: the Go text returns true. 'Grown w w'': the world has at most new blocks (Derived/RowKit3.lean). Part the cases AHEAD of 'go_enter' where a test parts the walk; take each callee by a contract of your own. -/
theorem walk (a0 : Int) (a1 : Int) (w0 : (Lit.int .i32 a0).wf = true) (w1 : (Lit.int .i64 a1).wf = true) (w : World) :
    Calls Try.prog 5 #[.int .i32 a0, .int .i64 a1] w fun e w' => e = .returned (.bool true) ∧ Grown w w' := by
  have h0 := bounds_i32 w0
  have h1 := bounds_i64 w1
  by_cases hn : a1 < 0
  · go_enter Try.func5, Try.ntmps5
    go_wp2
    go_ret
    exact ⟨rfl, Grown.refl _⟩
  · by_cases hm : (65536 : Int) < a1
    · go_enter Try.func5, Try.ntmps5
      go_wp2
      go_ret
      exact ⟨rfl, Grown.refl _⟩
    · by_cases ht : (2147483648 : Int) < a0 + a1
      · go_enter Try.func5, Try.ntmps5
        go_wp2
        go_ret
        exact ⟨rfl, Grown.refl _⟩
      · obtain ⟨n, rfl⟩ : ∃ n : Nat, a1 = n := ⟨a1.toNat, by omega⟩
        exact (small a0 n w h0.1 h0.2 (by omega) (by omega)).mono fun e w' h => ⟨h.1, h.2 ▸ Grown.refl _⟩

/-! ### THE ROW's STEP: WRITTEN OUT: LEAVE IT -/
set_option maxRecDepth 100000 in
theorem lifted (os : Os) (started : os.Started) (H : Type) (enc : TypeId × Value → H) :
    ReturnsInHanded {} Try.checked os 5 .any (Rows.fnAllowedCountWindowSpec.pre6 enc Try.prog Try.f5 Rows.fnAllowedCountWindowRow.domain false) (Rows.fnAllowedCountWindowSpec.post enc Try.prog Try.f5 false true false false) := by
  refine returnsInHanded_of_change (C := Try.checked) own started (by kernel_rfl) Try.func5
    (ChangeSpec.witness6 (enc := enc) (C := Try.checked) false ⟨#[], #[.int .i32 0, .int .i64 0], []⟩ 8 (by kernel_rfl) (by kernel_rfl) (by kernel_rfl) (by kernel_rfl)) ?_
  intro W base args ds gs before hval0 hW hcnd _
  have hval : ∀ (j : Nat) t v, Try.f5.params[j]? = some t → args[j]? = some v → Value.okWide Try.prog W .any base t v := hval0
  have hW' := hW
  obtain ⟨p, q, hA0, hV, rfl, hfz, hnd⟩ := hW
  have hA : DataW.TrodAll enc Try.prog W 0 (fun _ => true) true Try.f5.params.toList args.toList ds p := hA0
  rw [Try.params5] at hA hval
  obtain ⟨v0, vs0, d0, ds0, p0, q0, hargs, rfl, rfl, h0, r0⟩ := trodAll_cons hA
  obtain ⟨v1, vs1, d1, ds1, p1, q1, rfl, rfl, rfl, h1, r1⟩ := trodAll_cons r0
  obtain ⟨rfl, rfl, rfl⟩ := trodAll_nil r1
  obtain rfl : args = #[v0, v1] := by cases args; simp_all
  obtain ⟨rfl, rfl⟩ := trodVars_none hV
  obtain ⟨a0, rfl, rfl, rfl, w0⟩ := open_int Try.underlying21 (hval 0 21 v0 rfl rfl) h0
  obtain ⟨a1, rfl, rfl, rfl, w1⟩ := open_int Try.underlying3 (hval 1 3 v1 rfl rfl) h1
  clear hA0 hval0
  simp only [List.append_nil] at hW'
  refine (walk a0 a1 w0 w1 W).mono fun e W' ⟨he, hg⟩ => ?_
  subst he
  exact ⟨_, rfl, post_of_same (pa := []) (pv := []) hW' (fun _ _ _ => (trodAll_cons_mk (shut_bool Try.underlying4 _) trodAll_mk0)) (fun sp _ => (trodAll_cons_mk (shut_int Try.underlying21 w0) (trodAll_cons_mk (shut_int Try.underlying3 w1) trodAll_mk0))) (fun _ _ => rfl) rfl
    (hg.frame _) hg.2.1 (ok_one (by kernel_rfl) rfl (okWide_bool_mk Try.underlying4 _))⟩

theorem over : Rows.fnAllowedCountWindowRow.holds Try.pinned (OpenSpec.ofChange Rows.fnAllowedCountWindowSpec) :=
  OpenClaim.holds_of_wide 5 Try.f5 rfl rfl rfl rfl rfl rfl rfl ⟨rfl, rfl, rfl, rfl, rfl⟩ rfl rfl rfl rfl rfl (by kernel_rfl) Try.func5 (by kernel_rfl)
    (of_decide_eq_true (by kernel_rfl)) (by unfold Func.isWrapper; first | (rw [if_pos (by decide +kernel)]; kernel_rfl) | (rw [if_neg (by decide +kernel)]; exact ⟨rfl, rfl⟩))
    (fun os started H enc _ => lifted os started H enc)

/-- ████ THE STATEMENT ████ -/
theorem proved : Rows.FnAllowedCountWindowSaid :=
  over
end Go.Proofs.Qxb6618057a.fnAllowedCountWindow
namespace Go.Proofs.Qxb6618057a
theorem window_holds : Rows.FnAllowedCountWindowSaid := fnAllowedCountWindow.proved
#print axioms window_holds
end Go.Proofs.Qxb6618057a
