/- The proof of Rows.FnValueOrdersAsDecimalNumbersSaid: the walk of the law out of the callees' contracts (Value, Compare); the frame is the kit's template at this function. -/
import Derived.Test.Qxb6617574aRows
import Derived.WalkKit
import Derived.ProofKit
import Derived.OpenShut
import Derived.ShutString
import Derived.Test.Qxb6617574aCompare
namespace Go.Proofs.Qxb6617574a.fnValueOrdersAsDecimalNumbers
open Go.ChangeShapes Go.WideShapes Go.ChangeAt Go.RowKit
open Go.ChangeMaps (open_string shut_string)
set_option linter.unusedVariables false      -- a walk need not use every 'w<i>' (that an integer argument fits its kind)

theorem own : ownKnob Try.prog.godebug = none := by kernel_rfl

theorem ord_lt {x y c : Int} (h : Money.sgn x y = c) (hlt : x < y) : (-1 == c) = true := by
  subst h; unfold Money.sgn; rw [if_pos hlt]; rfl
theorem ord_gt {x y c : Int} (h : Money.sgn x y = c) (hlt : y < x) : (1 == c) = true := by
  subst h; unfold Money.sgn; rw [if_neg (by omega), if_pos hlt]; rfl
theorem ord_eq {x y c : Int} (h : Money.sgn x y = c) (h1 : y ≤ x) (h2 : x ≤ y) : (0 == c) = true := by
  subst h; unfold Money.sgn; rw [if_neg (by omega), if_neg (by omega)]; rfl

set_option maxHeartbeats 800000 in
theorem small (a0 : ByteArray) (a1 : ByteArray) (w0 : a0.size ≤ maxLen) (w1 : a1.size ≤ maxLen) (w : World) (h0 : (a0.size : Int) ≤ 524288) (h1 : (a1.size : Int) ≤ 524288) :
    Calls Try.prog 4 #[.string a0, .string a1] w fun e w' => e = .returned (.bool true) ∧ Grown w w' := by
  unfold maxLen at w0 w1
  by_cases f0 : Money.fits a0.data.toList = true
  · by_cases f1 : Money.fits a1.data.toList = true
    · have HO : Hid (_ = _) := Money.orders a0.data.toList a1.data.toList f0 f1
      go_enter Try.func4, Try.ntmps4
      go_wp2_with (first | (go_at_call 9; go_in) | (go_at_call 10; refine (fits_any _ _ (by unfold maxLen; omega)).mono ?_; rintro e w' ⟨rfl, nq, rfl⟩) | (go_at_call 6; refine (zzvalue_any _ _ (by unfold maxLen; omega)).mono ?_; rintro e w' ⟨rfl, rfl⟩) | (go_at_call 11; refine (cmpD_any _ _ _ (by unfold maxLen; omega) (by unfold maxLen; omega)).mono ?_; rintro e w' ⟨rfl, nq, rfl⟩))
      · go_ret
        exact ⟨ret_bool (ord_lt HO.out (by assumption)), Grown.refl _⟩
      · go_ret
        exact ⟨ret_bool (ord_gt HO.out (by assumption)), Grown.refl _⟩
      · go_ret
        exact ⟨ret_bool (ord_eq HO.out (by assumption) (by assumption)), Grown.refl _⟩
    · have f1' : Money.fits a1.data.toList = false := by simpa using f1
      clear f1
      go_enter Try.func4, Try.ntmps4
      go_wp2_with (first | (go_at_call 9; go_in) | (go_at_call 10; refine (fits_any _ _ (by unfold maxLen; omega)).mono ?_; rintro e w' ⟨rfl, nq, rfl⟩))
      go_ret
      exact ⟨rfl, Grown.refl _⟩
  · have f0' : Money.fits a0.data.toList = false := by simpa using f0
    clear f0
    go_enter Try.func4, Try.ntmps4
    go_wp2_with (first | (go_at_call 9; go_in) | (go_at_call 10; refine (fits_any _ _ (by unfold maxLen; omega)).mono ?_; rintro e w' ⟨rfl, nq, rfl⟩))
    go_ret
    exact ⟨rfl, Grown.refl _⟩

/-! ### STEP 1: THE WALK: the Go text returns true. 'Grown w w'': the world has at most new blocks (Derived/RowKit3.lean). Part the cases AHEAD of 'go_enter' where a test parts the walk; take each callee by a contract of your own. -/
theorem walk (a0 : ByteArray) (a1 : ByteArray) (w0 : a0.size ≤ maxLen) (w1 : a1.size ≤ maxLen) (w : World) :
    Calls Try.prog 4 #[.string a0, .string a1] w fun e w' => e = .returned (.bool true) ∧ Grown w w' := by
  unfold maxLen at w0 w1
  by_cases hs : (524288 : Int) < (a0.size : Int)
  · by_cases hs2 : (1048576 : Int) < (a0.size : Int)
    · go_enter Try.func4, Try.ntmps4
      go_wp2
      go_ret
      exact ⟨rfl, Grown.refl _⟩
    · by_cases hs3 : (1048576 : Int) < (a1.size : Int)
      · go_enter Try.func4, Try.ntmps4
        go_wp2
        go_ret
        exact ⟨rfl, Grown.refl _⟩
      · by_cases hs4 : (1048576 : Int) < (a0.size : Int) + (a1.size : Int)
        · go_enter Try.func4, Try.ntmps4
          go_wp2
          go_ret
          exact ⟨rfl, Grown.refl _⟩
        · go_enter Try.func4, Try.ntmps4
          go_wp2
          go_ret
          exact ⟨rfl, Grown.refl _⟩
  · by_cases hs3 : (1048576 : Int) < (a1.size : Int)
    · go_enter Try.func4, Try.ntmps4
      go_wp2
      go_ret
      exact ⟨rfl, Grown.refl _⟩
    · by_cases hs4 : (1048576 : Int) < (a0.size : Int) + (a1.size : Int)
      · go_enter Try.func4, Try.ntmps4
        go_wp2
        go_ret
        exact ⟨rfl, Grown.refl _⟩
      · by_cases hs5 : (524288 : Int) < (a1.size : Int)
        · go_enter Try.func4, Try.ntmps4
          go_wp2
          go_ret
          exact ⟨rfl, Grown.refl _⟩
        · exact small a0 a1 (by unfold maxLen; omega) (by unfold maxLen; omega) w (by omega) (by omega)

/-! ### THE ROW's STEP: WRITTEN OUT: LEAVE IT -/
set_option maxRecDepth 100000 in
theorem lifted (os : Os) (started : os.Started) (H : Type) (enc : TypeId × Value → H) :
    ReturnsInHanded {} Try.checked os 4 .any (Rows.fnValueOrdersAsDecimalNumbersSpec.pre6 enc Try.prog Try.f4 Rows.fnValueOrdersAsDecimalNumbersRow.domain false) (Rows.fnValueOrdersAsDecimalNumbersSpec.post enc Try.prog Try.f4 false true false false) := by
  refine returnsInHanded_of_change (C := Try.checked) own started (by kernel_rfl) Try.func4
    (ChangeSpec.witness6 (enc := enc) (C := Try.checked) false ⟨#[], #[.string ByteArray.empty, .string ByteArray.empty], []⟩ 8 (by kernel_rfl) (by kernel_rfl) (by kernel_rfl) (by kernel_rfl)) ?_
  intro W base args ds gs before hval0 hW hcnd _
  have hval : ∀ (j : Nat) t v, Try.f4.params[j]? = some t → args[j]? = some v → Value.okWide Try.prog W .any base t v := hval0
  have hW' := hW
  obtain ⟨p, q, hA0, hV, rfl, hfz, hnd⟩ := hW
  have hA : DataW.TrodAll enc Try.prog W 0 (fun _ => true) true Try.f4.params.toList args.toList ds p := hA0
  rw [Try.params4] at hA hval
  obtain ⟨v0, vs0, d0, ds0, p0, q0, hargs, rfl, rfl, h0, r0⟩ := trodAll_cons hA
  obtain ⟨v1, vs1, d1, ds1, p1, q1, rfl, rfl, rfl, h1, r1⟩ := trodAll_cons r0
  obtain ⟨rfl, rfl, rfl⟩ := trodAll_nil r1
  obtain rfl : args = #[v0, v1] := by cases args; simp_all
  obtain ⟨rfl, rfl⟩ := trodVars_none hV
  obtain ⟨a0, rfl, rfl, rfl, w0⟩ := open_string Try.underlying9 (hval 0 9 v0 rfl rfl) h0
  obtain ⟨a1, rfl, rfl, rfl, w1⟩ := open_string Try.underlying9 (hval 1 9 v1 rfl rfl) h1
  clear hA0 hval0
  simp only [List.append_nil] at hW'
  refine (walk a0 a1 w0 w1 W).mono fun e W' ⟨he, hg⟩ => ?_
  subst he
  exact ⟨_, rfl, post_of_same (pa := []) (pv := []) hW' (fun _ _ _ => (trodAll_cons_mk (shut_bool Try.underlying4 _) trodAll_mk0)) (fun sp _ => (trodAll_cons_mk (shut_string Try.underlying9 w0) (trodAll_cons_mk (shut_string Try.underlying9 w1) trodAll_mk0))) (fun _ _ => rfl) rfl
    (hg.frame _) hg.2.1 (ok_one (by kernel_rfl) rfl (okWide_bool_mk Try.underlying4 _))⟩

theorem over : Rows.fnValueOrdersAsDecimalNumbersRow.holds Try.pinned (OpenSpec.ofChange Rows.fnValueOrdersAsDecimalNumbersSpec) :=
  OpenClaim.holds_of_wide 4 Try.f4 rfl rfl rfl rfl rfl rfl rfl ⟨rfl, rfl, rfl, rfl, rfl⟩ rfl rfl rfl rfl rfl (by kernel_rfl) Try.func4 (by kernel_rfl)
    (of_decide_eq_true (by kernel_rfl)) (by unfold Func.isWrapper; first | (rw [if_pos (by decide +kernel)]; kernel_rfl) | (rw [if_neg (by decide +kernel)]; exact ⟨rfl, rfl⟩))
    (fun os started H enc _ => lifted os started H enc)

/-- ████ THE STATEMENT ████ -/
theorem proved : Rows.FnValueOrdersAsDecimalNumbersSaid :=
  over
end Go.Proofs.Qxb6617574a.fnValueOrdersAsDecimalNumbers
namespace Go.Proofs.Qxb6617574a
theorem orders_holds : Rows.FnValueOrdersAsDecimalNumbersSaid := fnValueOrdersAsDecimalNumbers.proved
#print axioms orders_holds
end Go.Proofs.Qxb6617574a
