/- zzSpaced: its walk. -/
import Derived.Test.Qxb6618184aScan
import Derived.Laws.IdiomStrings
import Derived.OwnWalk
namespace Go.Proofs.Qxb6618184a
open Go.ChangeShapes Go.WideShapes Go.ChangeAt Go.RowKit Comment

theorem Try.info5 : (Try.prog.info? 5).map (fun i => (i.zero, i.size, i.bytes)) = some (some (.int .u8 0), 1, 1) := by kernel_rfl

def bv (b : UInt8) : Value := .int .u8 (b.toNat : Int)
/-- the cells behind k rounds -/
def sp (t : ByteArray) (k : Nat) : List Value := (spaced (t.data.toList.take k)).map bv
theorem take_snoc (s : ByteArray) (k : Nat) (h : k < s.size) : s.data.toList.take (k + 1) = s.data.toList.take k ++ [s[k]] := by
  rw [List.take_succ_eq_append_getElem (by simpa using h)]; rfl
theorem sp_one (t : ByteArray) (k : Nat) (h : k < t.size) (h1 : ((t[k].toNat : Int) == 47) = false) (h2 : ((t[k].toNat : Int) == 42) = false) : sp t (k + 1) = sp t k ++ [bv t[k]] := by
  have e1 : ¬ (t[k] = 47 ∨ t[k] = 42) := by
    rintro (e | e)
    · rw [e] at h1; exact absurd h1 (by decide)
    · rw [e] at h2; exact absurd h2 (by decide)
  unfold sp
  rw [take_snoc t k h, spaced_snoc, List.map_append, sp1, if_neg e1]; rfl
theorem sp_two (t : ByteArray) (k : Nat) (h : k < t.size) (h1 : ((t[k].toNat : Int) == 47) = true ∨ ((t[k].toNat : Int) == 42) = true) : sp t (k + 1) = sp t k ++ [bv t[k], bv 32] := by
  have e1 : t[k] = 47 ∨ t[k] = 42 := by
    rcases h1 with e | e
    · left; exact UInt8.toNat_inj.mp (Int.ofNat.inj (by simpa using e))
    · right; exact UInt8.toNat_inj.mp (Int.ofNat.inj (by simpa using e))
  unfold sp
  rw [take_snoc t k h, spaced_snoc, List.map_append, sp1, if_pos e1]; rfl
theorem sp_zero (t : ByteArray) : sp t 0 = [] := by unfold sp; simp [spaced]

theorem cell_one (w : World) (b : UInt8) : ∀ (j : Nat) (u : Value), [bv b][j]? = some u → (w.alloc (.cells #[.int .u8 (b.toNat : Int)] 5)).cell? ((⟨w.heap.size, 0, none⟩ : Addr).add j) = some u := by
  intro j u hj
  match j, hj with
  | 0, hj =>
    simp at hj
    subst hj
    have : ((⟨w.heap.size, 0, none⟩ : Addr).add 0) = ⟨w.heap.size, 0, none⟩ := rfl
    rw [this, World.cell?_alloc_mark]
    rfl
theorem one_bv (b : UInt8) : ∀ u ∈ [bv b], u.oneCell' = true := by
  intro u hu
  simp at hu
  subst hu
  rfl
theorem sp_end (t : ByteArray) (k N : Nat) (hk : ¬ k < t.size) {w wr : World} (h : wr.ownsRow w.heap.size 5 1 (.slice (some ⟨w.heap.size, 0, none⟩) N (2 * t.size)) N (sp t k)) :
    (convert 32 9 (.slice (some ⟨w.heap.size, 0, none⟩) N (2 * t.size))).run Try.prog wr = .ok (.string ⟨(spaced t.data.toList).toArray⟩) wr := by
  have e : sp t k = (spaced t.data.toList).map bv := by
    unfold sp; rw [List.take_of_length_le (by rw [size_list]; omega)]
  rw [e] at h
  have hN : N = (spaced t.data.toList).length := by
    have := h.1
    rw [List.length_map] at this
    omega
  subst hN
  refine run_convert_bytes_back wr 32 9 5 _ _ _ Try.underlying32 Try.underlying5 Try.underlying9 (fun j hj => ?_)
  have := h.cellAt j (by omega)
  have ea : ((⟨w.heap.size, 0, none⟩ : Addr).add j) = ⟨w.heap.size, j, none⟩ := by unfold Addr.add; split <;> simp_all
  rw [ea, this]
  simp [hj, bv]

set_option maxHeartbeats 1000000 in
theorem spaced_any (t : ByteArray) (w : World) (ht : t.size ≤ 65536) :
    Calls Try.prog 13 #[.string t] w fun e w' => e = .returned (.string ⟨(spaced t.data.toList).toArray⟩) ∧ Below w.heap.size w w' := by
  obtain ⟨i0, hi, hz0, hz1, hz2⟩ := info_parts Try.info5
  go_enter Try.func13, Try.ntmps13
  go_wp2_with (at_make; refine wpList_make_own _ rfl _ _ 32 rfl w.heap.size 5 i0 (.int .u8 0) 1 Try.underlying32 hi hz0 hz1 .i64 .i64 _ (2 * t.size) rfl rfl ?m1 ?m2 ?m3 ?m4 ?_)
  case m1 => omega
  case m2 => rw [hz2]; omega
  case m3 => unfold maxLen; omega
  case m4 => exact Nat.le_refl _
  intro w1 hown0 hgrow0
  have HO0 := hidden hown0
  have HB0 := hidden ((Below.refl w.heap.size w).grown hgrow0 (Nat.le_refl _) (fun r e => by cases e))
  clear hown0 hgrow0
  go_wp2_with fail
  go_loopw [3, 4] (fun v iv wr => ∃ k N : Nat, k ≤ t.size ∧ N ≤ 2 * k ∧ iv = .int .i64 k ∧ v = .slice (some ⟨w.heap.size, 0, none⟩) N (2 * t.size) ∧ Hid (wr.ownsRow w.heap.size 5 1 (.slice (some ⟨w.heap.size, 0, none⟩) N (2 * t.size)) N (sp t k)) ∧ Hid (Below w.heap.size w wr)) (fun _ iv _ => t.size - (intOf iv).toNat)
  case atStart => exact ⟨0, 0, Nat.zero_le _, Nat.le_refl _, rfl, rfl, by rw [sp_zero]; exact HO0, HB0⟩
  case round =>
    obtain ⟨k, N, hk, hN, rfl, rfl, HO, HB⟩ := hrel
    clear HO0 HB0
    by_cases hlt : k < t.size
    · have HS := hidden HB.out.size
      rcases Bool.eq_false_or_eq_true ((t[k].toNat : Int) == 47) with x | x
      · go_wp2_with (at_builtin; refine wpList_append_fits _ rfl (.tmp 15) (.tmp 19) 32 rfl w.heap.size 5 i0 1 Try.underlying32 hi hz1 w.heap.size N (2 * t.size) (sp t k) rfl (HO.out.alloc _) ⟨wr.heap.size, 0, none⟩ 1 1 [bv t[k]] rfl rfl ?c1a ?c2a ?c3a ?_)
        case c1a => exact cell_one _ _
        case c2a => exact one_bv _
        case c3a => omega
        intro w2 hown2 hgrow2
        have HO2 := hidden hown2
        have HB2 := hidden ((HB.out.alloc HS.out (.cells #[bv t[k]] 5)).grown hgrow2 (by have := HS.out; simp; omega) (fun r e => by cases e; exact Nat.le_refl _))
        have HS2 := hidden HB2.out.size
        clear hown2 hgrow2
        go_wp2_with (at_builtin; refine wpList_append_fits _ rfl (.tmp 31) (.tmp 32) 32 rfl w.heap.size 5 i0 1 Try.underlying32 hi hz1 w.heap.size (N + 1) (2 * t.size) (sp t k ++ [bv t[k]]) rfl (HO2.out.alloc _) ⟨w2.heap.size, 0, none⟩ 1 1 [bv 32] rfl rfl ?d1a ?d2a ?d3a ?_)
        case d1a => exact cell_one _ _
        case d2a => exact one_bv _
        case d3a => omega
        intro w3 hown3 hgrow3
        have HO3 := hidden hown3
        have HB3 := hidden ((HB2.out.alloc HS2.out (.cells #[bv 32] 5)).grown hgrow3 (by have := HS2.out; simp; omega) (fun r e => by cases e; exact Nat.le_refl _))
        clear hown3 hgrow3
        go_wp2_with fail
        go_roundw
        case rel => exact ⟨k + 1, N + 1 + 1, by omega, by omega, by go_num, rfl, by rw [sp_two t k hlt (.inl x)]; exact HO3, HB3⟩
        case measure => simp [intOf]; omega
      · rcases Bool.eq_false_or_eq_true ((t[k].toNat : Int) == 42) with y | y
        · go_wp2_with (at_builtin; refine wpList_append_fits _ rfl (.tmp 15) (.tmp 19) 32 rfl w.heap.size 5 i0 1 Try.underlying32 hi hz1 w.heap.size N (2 * t.size) (sp t k) rfl (HO.out.alloc _) ⟨wr.heap.size, 0, none⟩ 1 1 [bv t[k]] rfl rfl ?c1b ?c2b ?c3b ?_)
          case c1b => exact cell_one _ _
          case c2b => exact one_bv _
          case c3b => omega
          intro w2 hown2 hgrow2
          have HO2 := hidden hown2
          have HB2 := hidden ((HB.out.alloc HS.out (.cells #[bv t[k]] 5)).grown hgrow2 (by have := HS.out; simp; omega) (fun r e => by cases e; exact Nat.le_refl _))
          have HS2 := hidden HB2.out.size
          clear hown2 hgrow2
          go_wp2_with (at_builtin; refine wpList_append_fits _ rfl (.tmp 31) (.tmp 32) 32 rfl w.heap.size 5 i0 1 Try.underlying32 hi hz1 w.heap.size (N + 1) (2 * t.size) (sp t k ++ [bv t[k]]) rfl (HO2.out.alloc _) ⟨w2.heap.size, 0, none⟩ 1 1 [bv 32] rfl rfl ?d1b ?d2b ?d3b ?_)
          case d1b => exact cell_one _ _
          case d2b => exact one_bv _
          case d3b => omega
          intro w3 hown3 hgrow3
          have HO3 := hidden hown3
          have HB3 := hidden ((HB2.out.alloc HS2.out (.cells #[bv 32] 5)).grown hgrow3 (by have := HS2.out; simp; omega) (fun r e => by cases e; exact Nat.le_refl _))
          clear hown3 hgrow3
          go_wp2_with fail
          go_roundw
          case rel => exact ⟨k + 1, N + 1 + 1, by omega, by omega, by go_num, rfl, by rw [sp_two t k hlt (.inr y)]; exact HO3, HB3⟩
          case measure => simp [intOf]; omega
        · go_wp2_with (at_builtin; refine wpList_append_fits _ rfl (.tmp 15) (.tmp 19) 32 rfl w.heap.size 5 i0 1 Try.underlying32 hi hz1 w.heap.size N (2 * t.size) (sp t k) rfl (HO.out.alloc _) ⟨wr.heap.size, 0, none⟩ 1 1 [bv t[k]] rfl rfl ?c1c ?c2c ?c3c ?_)
          case c1c => exact cell_one _ _
          case c2c => exact one_bv _
          case c3c => omega
          intro w2 hown2 hgrow2
          have HO2 := hidden hown2
          have HB2 := hidden ((HB.out.alloc HS.out (.cells #[bv t[k]] 5)).grown hgrow2 (by have := HS.out; simp; omega) (fun r e => by cases e; exact Nat.le_refl _))
          have HS2 := hidden HB2.out.size
          clear hown2 hgrow2
          go_wp2_with fail
          go_roundw
          case rel => exact ⟨k + 1, N + 1, by omega, by omega, by go_num, rfl, by rw [sp_one t k hlt x y]; exact HO2, HB2⟩
          case measure => simp [intOf]; omega
    · have HK := hidden (sp_end t k N hlt HO.out)
      have hconv := HK.out
      go_wp2_with fail
      go_ret
      exact ⟨rfl, HB.out⟩
end Go.Proofs.Qxb6618184a
