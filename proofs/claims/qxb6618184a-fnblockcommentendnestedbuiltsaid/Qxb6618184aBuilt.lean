/- The walk of FnBlockCommentEndNestedBuilt. -/
import Derived.Test.Qxb6618184aSpaced
namespace Go.Proofs.Qxb6618184a
open Go.ChangeShapes Go.WideShapes Go.ChangeAt Go.RowKit Comment

set_option maxHeartbeats 1000000 in
theorem bytes_any (p a b c u : ByteArray) (w : World) (hp : p.size ≤ maxLen) (ha : a.size ≤ maxLen) (hb : b.size ≤ maxLen) (hc : c.size ≤ maxLen) (hu : u.size ≤ maxLen) :
    Calls Try.prog 12 #[.string p, .string a, .string b, .string c, .string u] w fun e w' => ∃ v, e = .returned (.bool v) ∧ w' = w := by
  unfold maxLen at hp ha hb hc hu
  go_enter Try.func12, Try.ntmps12
  go_wp2
  all_goals
    go_ret
    exact ⟨_, rfl, rfl⟩

set_option maxHeartbeats 1000000 in
theorem bytes_small (p a b c u : ByteArray) (w : World) (hp : p.size ≤ 65536) (ha : a.size ≤ 65536) (hb : b.size ≤ 65536) (hc : c.size ≤ 65536) (hu : u.size ≤ 65536) :
    Calls Try.prog 12 #[.string p, .string a, .string b, .string c, .string u] w fun e w' => e = .returned (.bool true) ∧ w' = w := by
  go_enter Try.func12, Try.ntmps12
  go_wp2
  go_ret
  exact ⟨rfl, rfl⟩

theorem size_spaced (t : ByteArray) (h : t.size ≤ 65536) : (⟨(spaced t.data.toList).toArray⟩ : ByteArray).size ≤ 131072 := by
  show (spaced t.data.toList).toArray.size ≤ _
  have := spaced_len t.data.toList
  rw [size_list] at this
  simp
  omega

theorem built_list (p a b c u A B C : ByteArray) (hA : A = ⟨(spaced a.data.toList).toArray⟩) (hB : B = ⟨(spaced b.data.toList).toArray⟩) (hC : C = ⟨(spaced c.data.toList).toArray⟩) :
    (p ++ ⟨#[47, 42]⟩ ++ A ++ ⟨#[47, 42]⟩ ++ B ++ ⟨#[42, 47]⟩ ++ C ++ ⟨#[42, 47]⟩ ++ u).data.toList = built p.data.toList a.data.toList b.data.toList c.data.toList u.data.toList := by
  subst hA hB hC
  unfold built
  simp
theorem at2_built (p a b c u : List UInt8) : at2 (built p a b c u) p.length 47 42 = true := by
  unfold at2 built
  rw [decide_eq_true_iff]
  simp
theorem end_at (X : ByteArray) (n R : Nat) (w : World) (hs : X.size ≤ 1048576) (h0 : at2 X.data.toList n 47 42 = true) (hR : (scan X.data.toList 1 (n + 2)).getD X.size = R) :
    Calls Try.prog 11 #[.string X, .int .i64 n] w fun e w' => e = .returned (.int .i64 R) ∧ w' = w := by
  have h := zzend_any X n w hs h0
  rw [hR] at h
  exact h
theorem built_size (p A B C u : ByteArray) (hp : p.size ≤ 65536) (hA1 : A.size ≤ 131072) (hB1 : B.size ≤ 131072) (hC1 : C.size ≤ 131072) (hu : u.size ≤ 65536) :
    (p ++ ⟨#[47, 42]⟩ ++ A ++ ⟨#[47, 42]⟩ ++ B ++ ⟨#[42, 47]⟩ ++ C ++ ⟨#[42, 47]⟩ ++ u).size ≤ 1048576 := by
  have e1 : (⟨#[47, 42]⟩ : ByteArray).size = 2 := rfl
  have e2 : (⟨#[42, 47]⟩ : ByteArray).size = 2 := rfl
  simp only [ByteArray.size_append, e1, e2]
  omega
theorem built_core (X : ByteArray) (p a b c u A B C : ByteArray) (w : World) (hA : A = ⟨(spaced a.data.toList).toArray⟩) (hB : B = ⟨(spaced b.data.toList).toArray⟩) (hC : C = ⟨(spaced c.data.toList).toArray⟩)
    (hX : X.data.toList = built p.data.toList a.data.toList b.data.toList c.data.toList u.data.toList) (hs : X.size ≤ 1048576) :
    Calls Try.prog 11 #[.string X, .int .i64 p.size] w fun e w' => e = .returned (.int .i64 ((p.size : Int) + 8 + A.size + B.size + C.size)) ∧ w' = w := by
  have eA : (spaced a.data.toList).length = A.size := by rw [hA]; rfl
  have eB : (spaced b.data.toList).length = B.size := by rw [hB]; rfl
  have eC : (spaced c.data.toList).length = C.size := by rw [hC]; rfl
  have hR : (scan X.data.toList 1 (p.size + 2)).getD X.size = p.size + 8 + A.size + B.size + C.size := by
    have hb := scan_built p.data.toList a.data.toList b.data.toList c.data.toList u.data.toList
    rw [size_list, eA, eB, eC] at hb
    rw [hX, hb]; rfl
  have h0 : at2 X.data.toList p.size 47 42 = true := by
    rw [hX]; exact at2_built _ _ _ _ _
  have h := end_at X p.size (p.size + 8 + A.size + B.size + C.size) w hs h0 hR
  have e : ((p.size + 8 + A.size + B.size + C.size : Nat) : Int) = (p.size : Int) + 8 + A.size + B.size + C.size := by omega
  rw [e] at h
  exact h
theorem built_end (p a b c u A B C : ByteArray) (w : World) (hA : A = ⟨(spaced a.data.toList).toArray⟩) (hB : B = ⟨(spaced b.data.toList).toArray⟩) (hC : C = ⟨(spaced c.data.toList).toArray⟩)
    (hp : p.size ≤ 65536) (hA1 : A.size ≤ 131072) (hB1 : B.size ≤ 131072) (hC1 : C.size ≤ 131072) (hu : u.size ≤ 65536) :
    Calls Try.prog 11 #[.string (p ++ ⟨#[47, 42]⟩ ++ A ++ ⟨#[47, 42]⟩ ++ B ++ ⟨#[42, 47]⟩ ++ C ++ ⟨#[42, 47]⟩ ++ u), .int .i64 p.size] w fun e w' => e = .returned (.int .i64 ((p.size : Int) + 8 + A.size + B.size + C.size)) ∧ w' = w :=
  built_core _ p a b c u A B C w hA hB hC (built_list p a b c u A B C hA hB hC) (built_size p A B C u hp hA1 hB1 hC1 hu)

set_option maxHeartbeats 1000000 in
theorem built_small (p a b c u : ByteArray) (w : World) (hp : p.size ≤ 65536) (ha : a.size ≤ 65536) (hb : b.size ≤ 65536) (hc : c.size ≤ 65536) (hu : u.size ≤ 65536) :
    Calls Try.prog 4 #[.string p, .string a, .string b, .string c, .string u] w fun e w' => e = .returned (.bool true) ∧ Below w.heap.size w w' := by
  have HA := hidden (fun w => spaced_any a w ha)
  have HB := hidden (fun w => spaced_any b w hb)
  have HC := hidden (fun w => spaced_any c w hc)
  have hA := size_spaced a ha
  have hB := size_spaced b hb
  have hC := size_spaced c hc
  obtain ⟨A, hAe⟩ : ∃ A : ByteArray, A = ⟨(spaced a.data.toList).toArray⟩ := ⟨_, rfl⟩
  obtain ⟨B, hBe⟩ : ∃ B : ByteArray, B = ⟨(spaced b.data.toList).toArray⟩ := ⟨_, rfl⟩
  obtain ⟨C, hCe⟩ : ∃ C : ByteArray, C = ⟨(spaced c.data.toList).toArray⟩ := ⟨_, rfl⟩
  rw [← hAe] at hA HA
  rw [← hBe] at hB HB
  rw [← hCe] at hC HC
  have HAe := hidden hAe
  have HBe := hidden hBe
  have HCe := hidden hCe
  clear hAe hBe hCe
  go_enter Try.func4, Try.ntmps4
  go_wp2_with (first | (go_at_call 12; refine (bytes_small _ _ _ _ _ _ hp ha hb hc hu).mono ?_; rintro e w' ⟨rfl, rfl⟩))
  refine (HA.out _).mono ?_
  rintro e w1 ⟨rfl, hb1⟩
  go_wp2_with fail
  refine (HB.out _).mono ?_
  rintro e w2 ⟨rfl, hb2⟩
  go_wp2_with fail
  refine (HC.out _).mono ?_
  rintro e w3 ⟨rfl, hb3⟩
  have BL := hidden ((hb1.trans (hb2.mono hb1.size)).trans (hb3.mono (hb1.trans (hb2.mono hb1.size)).size))
  clear hb1 hb2 hb3 HA HB HC
  have HX := hidden (fun w => built_end p a b c u A B C w HAe.out HBe.out HCe.out hp hA hB hC hu)
  go_wp2_with fail
  refine (HX.out _).mono ?_
  rintro e w4 ⟨rfl, rfl⟩
  go_wp2
  go_ret
  exact ⟨rfl, BL.out⟩
end Go.Proofs.Qxb6618184a
