/- The proof of Rows.FnBlockCommentEndMatchesNestingSaid: the walk of the law out of the callees' contracts (Scan); the frame is the kit's template at this function. -/
import Derived.Test.Qxb6618184aRows
import Derived.WalkKit
import Derived.ProofKit
import Derived.OpenShut
import Derived.ShutString
import Derived.Test.Qxb6618184aScan
namespace Go.Proofs.Qxb6618184a.fnBlockCommentEndMatchesNesting
open Go.ChangeShapes Go.WideShapes Go.ChangeAt Go.RowKit
open Go.ChangeMaps (open_string shut_string)
set_option linter.unusedVariables false      -- a walk need not use every 'w<i>' (that an integer argument fits its kind)

theorem own : ownKnob Try.prog.godebug = none := by kernel_rfl

set_option maxHeartbeats 1000000 in
theorem inside (s : ByteArray) (n : Nat) (w : World) (hs : s.size ≤ 65536) (hn : n + 1 < s.size) :
    Calls Try.prog 3 #[.string s, .int .i64 n] w fun e w' => e = .returned (.bool true) ∧ w' = w := by
  have HB := hidden (at2_bytes s n 47 42 hn)
  rcases Bool.eq_false_or_eq_true ((s[n].toNat : Int) == 47) with x | x
  · have x' : ((s[n].toNat : Int) != 47) = false := by simpa using x
    rcases Bool.eq_false_or_eq_true ((s[n + 1].toNat : Int) == 42) with y | y
    · have y' : ((s[n + 1].toNat : Int) != 42) = false := by simpa using y
      have hat : Comment.at2 s.data.toList n 47 42 = true := HB.out.trans (by show (((s[n].toNat : Int) == 47) && ((s[n + 1].toNat : Int) == 42)) = true; rw [x, y]; rfl)
      have HC := hidden (fun w => close_any s (by omega) s.size n w (by omega) (by omega))
      have HE := hidden (fun w => zzend_any s n w (by omega) hat)
      clear hat HB x y
      cases hsc : Comment.scan s.data.toList 1 (n + 2) with
      | none =>
        rw [Comment.cc_none hsc] at HC
        rw [hsc] at HE
        clear hsc
        go_enter Try.func3, Try.ntmps3
        go_wp2_with (first | (go_at_call 9; go_in) | (go_at_call 10; refine (HC.out _).mono ?_; rintro e w' ⟨rfl, rfl⟩) | (go_at_call 11; refine (HE.out _).mono ?_; rintro e w' ⟨rfl, rfl⟩))
        go_ret
        exact ⟨rfl, rfl⟩
      | some e0 =>
        rw [Comment.cc_some hsc] at HC
        rw [hsc] at HE
        clear hsc
        go_enter Try.func3, Try.ntmps3
        go_wp2_with (first | (go_at_call 9; go_in) | (go_at_call 10; refine (HC.out _).mono ?_; rintro e w' ⟨rfl, rfl⟩) | (go_at_call 11; refine (HE.out _).mono ?_; rintro e w' ⟨rfl, rfl⟩))
        go_ret
        exact ⟨rfl, rfl⟩
    · have y' : ((s[n + 1].toNat : Int) != 42) = true := by simpa using y
      clear y x
      go_enter Try.func3, Try.ntmps3
      go_wp2_with (go_at_call 9; go_in)
      go_ret
      exact ⟨rfl, rfl⟩
  · have x' : ((s[n].toNat : Int) != 47) = true := by simpa using x
    clear x
    go_enter Try.func3, Try.ntmps3
    go_wp2_with (go_at_call 9; go_in)
    go_ret
    exact ⟨rfl, rfl⟩

/-! ### STEP 1: THE WALK: the Go text returns true. 'Grown w w'': the world has at most new blocks (Derived/RowKit3.lean). Part the cases AHEAD of 'go_enter' where a test parts the walk; take each callee by a contract of your own. -/
theorem walk (a0 : ByteArray) (a1 : Int) (w0 : a0.size ≤ maxLen) (w1 : (Lit.int .i64 a1).wf = true) (w : World) :
    Calls Try.prog 3 #[.string a0, .int .i64 a1] w fun e w' => e = .returned (.bool true) ∧ Grown w w' := by
  unfold maxLen at w0
  have hk := bounds_i64 w1
  by_cases hs : (65536 : Int) < (a0.size : Int)
  · by_cases hs2 : (1048576 : Int) < (a0.size : Int)
    · go_enter Try.func3, Try.ntmps3
      go_wp2
      go_ret
      exact ⟨rfl, Grown.refl _⟩
    · go_enter Try.func3, Try.ntmps3
      go_wp2
      go_ret
      exact ⟨rfl, Grown.refl _⟩
  · by_cases hlo : a1 < 0
    · go_enter Try.func3, Try.ntmps3
      go_wp2
      go_ret
      exact ⟨rfl, Grown.refl _⟩
    · by_cases hhi : (a0.size : Int) - 1 ≤ a1
      · go_enter Try.func3, Try.ntmps3
        go_wp2
        go_ret
        exact ⟨rfl, Grown.refl _⟩
      · obtain ⟨n, rfl⟩ : ∃ n : Nat, a1 = n := ⟨a1.toNat, by omega⟩
        exact (inside a0 n w (by omega) (by omega)).mono fun e w' h => ⟨h.1, h.2 ▸ Grown.refl _⟩

/-! ### THE ROW's STEP: WRITTEN OUT: LEAVE IT -/
set_option maxRecDepth 100000 in
theorem lifted (os : Os) (started : os.Started) (H : Type) (enc : TypeId × Value → H) :
    ReturnsInHanded {} Try.checked os 3 .any (Rows.fnBlockCommentEndMatchesNestingSpec.pre6 enc Try.prog Try.f3 Rows.fnBlockCommentEndMatchesNestingRow.domain false) (Rows.fnBlockCommentEndMatchesNestingSpec.post enc Try.prog Try.f3 false true false false) := by
  refine returnsInHanded_of_change (C := Try.checked) own started (by kernel_rfl) Try.func3
    (ChangeSpec.witness6 (enc := enc) (C := Try.checked) false ⟨#[], #[.string ByteArray.empty, .int .i64 0], []⟩ 8 (by kernel_rfl) (by kernel_rfl) (by kernel_rfl) (by kernel_rfl)) ?_
  intro W base args ds gs before hval0 hW hcnd _
  have hval : ∀ (j : Nat) t v, Try.f3.params[j]? = some t → args[j]? = some v → Value.okWide Try.prog W .any base t v := hval0
  have hW' := hW
  obtain ⟨p, q, hA0, hV, rfl, hfz, hnd⟩ := hW
  have hA : DataW.TrodAll enc Try.prog W 0 (fun _ => true) true Try.f3.params.toList args.toList ds p := hA0
  rw [Try.params3] at hA hval
  obtain ⟨v0, vs0, d0, ds0, p0, q0, hargs, rfl, rfl, h0, r0⟩ := trodAll_cons hA
  obtain ⟨v1, vs1, d1, ds1, p1, q1, rfl, rfl, rfl, h1, r1⟩ := trodAll_cons r0
  obtain ⟨rfl, rfl, rfl⟩ := trodAll_nil r1
  obtain rfl : args = #[v0, v1] := by cases args; simp_all
  obtain ⟨rfl, rfl⟩ := trodVars_none hV
  obtain ⟨a0, rfl, rfl, rfl, w0⟩ := open_string Try.underlying9 (hval 0 9 v0 rfl rfl) h0
  obtain ⟨a1, rfl, rfl, rfl, w1⟩ := open_int Try.underlying3 (hval 1 3 v1 rfl rfl) h1
  clear hA0 hval0
  simp only [List.append_nil] at hW'
  refine (walk a0 a1 w0 w1 W).mono fun e W' ⟨he, hg⟩ => ?_
  subst he
  exact ⟨_, rfl, post_of_same (pa := []) (pv := []) hW' (fun _ _ _ => (trodAll_cons_mk (shut_bool Try.underlying4 _) trodAll_mk0)) (fun sp _ => (trodAll_cons_mk (shut_string Try.underlying9 w0) (trodAll_cons_mk (shut_int Try.underlying3 w1) trodAll_mk0))) (fun _ _ => rfl) rfl
    (hg.frame _) hg.2.1 (ok_one (by kernel_rfl) rfl (okWide_bool_mk Try.underlying4 _))⟩

theorem over : Rows.fnBlockCommentEndMatchesNestingRow.holds Try.pinned (OpenSpec.ofChange Rows.fnBlockCommentEndMatchesNestingSpec) :=
  OpenClaim.holds_of_wide 3 Try.f3 rfl rfl rfl rfl rfl rfl rfl ⟨rfl, rfl, rfl, rfl, rfl⟩ rfl rfl rfl rfl rfl (by kernel_rfl) Try.func3 (by kernel_rfl)
    (of_decide_eq_true (by kernel_rfl)) (by unfold Func.isWrapper; first | (rw [if_pos (by decide +kernel)]; kernel_rfl) | (rw [if_neg (by decide +kernel)]; exact ⟨rfl, rfl⟩))
    (fun os started H enc _ => lifted os started H enc)

/-- ████ THE STATEMENT ████ -/
theorem proved : Rows.FnBlockCommentEndMatchesNestingSaid :=
  over
end Go.Proofs.Qxb6618184a.fnBlockCommentEndMatchesNesting
namespace Go.Proofs.Qxb6618184a
theorem nesting_holds : Rows.FnBlockCommentEndMatchesNestingSaid := fnBlockCommentEndMatchesNesting.proved
#print axioms nesting_holds
end Go.Proofs.Qxb6618184a
