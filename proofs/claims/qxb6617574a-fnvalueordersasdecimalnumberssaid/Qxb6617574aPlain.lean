/- Plain laws on the decimal value of a text: no Go in sight. -/
namespace Go.Proofs.Qxb6617574a.Money
def dg (c : UInt8) : Int := ((c.toNat : Int) - 48) % 256
def m64 (x : Int) : Int := x % 18446744073709551616
def V (l : List UInt8) : Int := l.foldl (fun n c => n * 10 + dg c) 0

theorem V_from (l : List UInt8) (a : Int) : l.foldl (fun n c => n * 10 + dg c) a = a * 10 ^ l.length + V l := by
  unfold V
  induction l generalizing a with
  | nil => simp
  | cons c l ih =>
    simp only [List.foldl_cons, List.length_cons]
    rw [ih, ih (0 * 10 + dg c), Int.pow_succ]
    simp only [Int.add_mul, Int.zero_mul, Int.zero_add]
    rw [Int.mul_assoc a 10, Int.mul_comm 10]
    omega

theorem V_append (a b : List UInt8) : V (a ++ b) = V a * 10 ^ b.length + V b := by
  rw [V, List.foldl_append, V_from b]; rfl

theorem V_cons (c : UInt8) (l : List UInt8) : V (c :: l) = dg c * 10 ^ l.length + V l := by
  rw [V, List.foldl_cons, V_from l]; simp

theorem V_snoc (l : List UInt8) (c : UInt8) : V (l ++ [c]) = V l * 10 + dg c := by
  rw [V_append]; simp [V]

theorem V_nil : V [] = 0 := rfl

theorem m64_bd (x : Int) : 0 ≤ m64 x ∧ m64 x ≤ 18446744073709551615 := by unfold m64; omega
theorem dg_bd (c : UInt8) : 0 ≤ dg c ∧ dg c ≤ 255 := by unfold dg; omega
theorem m64_step (x d : Int) : m64 (m64 (m64 x * 10) + d) = m64 (x * 10 + d) := by unfold m64; omega
theorem m64_ten (x : Int) : m64 (m64 x * 10) = m64 (x * 10) := by unfold m64; omega
theorem m64_mul (x y : Int) : m64 (m64 x * m64 y) = m64 (x * y) := by unfold m64; rw [← Int.mul_emod]
theorem m64_mul_r (x y : Int) : m64 (x * m64 y) = m64 (x * y) := by unfold m64; rw [Int.mul_emod, Int.emod_emod, ← Int.mul_emod]
theorem m64_add (x y : Int) : m64 (m64 x + m64 y) = m64 (x + y) := by unfold m64; omega
theorem m64_id (x : Int) (h0 : 0 ≤ x) (h : x < 18446744073709551616) : m64 x = x := by unfold m64; omega

theorem join (a b : List UInt8) : m64 (V (a ++ b)) = m64 (m64 (m64 (V a) * m64 (10 ^ b.length)) + m64 (V b)) := by
  rw [V_append, m64_mul, m64_add]

/-- the sum's round from the right -/
theorem sum_step (c : UInt8) (l : List UInt8) : m64 (m64 (V l) + m64 (dg c * m64 (10 ^ l.length))) = m64 (V (c :: l)) := by
  rw [m64_mul_r, m64_add, V_cons, Int.add_comm]


/-! ### Decimal order -/
theorem ten_mono {n m : Nat} (h : n ≤ m) : (10 : Int) ^ n ≤ 10 ^ m := by
  have := Nat.pow_le_pow_right (n := 10) (by decide) h
  have h2 : ((10 ^ n : Nat) : Int) ≤ ((10 ^ m : Nat) : Int) := by omega
  simpa using h2

def isDig (c : UInt8) : Bool := 48 ≤ c && c ≤ 57
def lz (l : List UInt8) : Nat := (l.takeWhile (· == 48)).length
/-- byte by byte, then by length -/
def cmpB : List UInt8 → List UInt8 → Int
  | [], [] => 0
  | [], _ :: _ => -1
  | _ :: _, [] => 1
  | a :: as, b :: bs => if a < b then -1 else if b < a then 1 else cmpB as bs
def maxL : List UInt8 := [49, 56, 52, 52, 54, 55, 52, 52, 48, 55, 51, 55, 48, 57, 53, 53, 49, 54, 49, 53]
def strip (l : List UInt8) : List UInt8 := l.drop (lz l)
def fits (l : List UInt8) : Bool :=
  l.all isDig && (if (strip l).length < 20 then true else if 20 < (strip l).length then false else decide (cmpB (strip l) maxL ≤ 0))
def cmpD (a b : List UInt8) : Int :=
  if (strip a).length < (strip b).length then -1 else if (strip b).length < (strip a).length then 1 else cmpB (strip a) (strip b)
def sgn (x y : Int) : Int := if x < y then -1 else if y < x then 1 else 0

theorem dg_of {c : UInt8} (h : isDig c = true) : dg c = (c.toNat : Int) - 48 ∧ 0 ≤ dg c ∧ dg c ≤ 9 := by
  simp [isDig, UInt8.le_iff_toNat_le] at h
  unfold dg
  omega

theorem V_lt (l : List UInt8) (h : l.all isDig = true) : 0 ≤ V l ∧ V l < 10 ^ l.length := by
  induction l with
  | nil => simp [V]
  | cons c l ih =>
    simp only [List.all_cons, Bool.and_eq_true] at h
    have hd := dg_of h.1
    have hi := ih h.2
    rw [V_cons, List.length_cons, Int.pow_succ]
    have hp : (0 : Int) < 10 ^ l.length := Int.pow_pos (by decide)
    generalize (10 : Int) ^ l.length = p at *
    have h1 : 0 ≤ dg c * p := Int.mul_nonneg hd.2.1 (by omega)
    have h2 : dg c * p ≤ 9 * p := Int.mul_le_mul_of_nonneg_right hd.2.2 (by omega)
    omega

theorem cmpB_sgn : ∀ (a b : List UInt8), a.length = b.length → a.all isDig = true → b.all isDig = true → cmpB a b = sgn (V a) (V b)
  | [], [], _, _, _ => by simp [cmpB, sgn]
  | [], _ :: _, h, _, _ => by simp at h
  | _ :: _, [], h, _, _ => by simp at h
  | x :: a, y :: b, h, ha, hb => by
    simp only [List.length_cons, Nat.add_right_cancel_iff] at h
    simp only [List.all_cons, Bool.and_eq_true] at ha hb
    have ih := cmpB_sgn a b h ha.2 hb.2
    have dx := dg_of ha.1
    have dy := dg_of hb.1
    have va := V_lt a ha.2
    have vb := V_lt b hb.2
    rw [cmpB, V_cons, V_cons, h]
    rw [h] at va
    have hp : (0 : Int) < 10 ^ b.length := Int.pow_pos (by decide)
    generalize (10 : Int) ^ b.length = p at *
    simp only [UInt8.lt_iff_toNat_lt]
    by_cases h1 : x.toNat < y.toNat
    · rw [if_pos h1]
      have : (dg x + 1) * p ≤ dg y * p := Int.mul_le_mul_of_nonneg_right (by omega) (by omega)
      rw [Int.add_mul, Int.one_mul] at this
      unfold sgn
      rw [if_pos (by omega)]
    · rw [if_neg h1]
      by_cases h2 : y.toNat < x.toNat
      · rw [if_pos h2]
        have : (dg y + 1) * p ≤ dg x * p := Int.mul_le_mul_of_nonneg_right (by omega) (by omega)
        rw [Int.add_mul, Int.one_mul] at this
        unfold sgn
        rw [if_neg (by omega), if_pos (by omega)]
      · rw [if_neg h2, ih]
        have : dg x = dg y := by omega
        rw [this]
        unfold sgn
        split <;> split <;> (try split) <;> omega

theorem strip_eq (l : List UInt8) : strip l = l.dropWhile (· == 48) := by
  unfold strip lz
  induction l with
  | nil => rfl
  | cons c l ih =>
    by_cases h : (c == 48) = true
    · rw [List.takeWhile_cons, List.dropWhile_cons, if_pos h, if_pos h, List.length_cons, List.drop_succ_cons, ih]
    · rw [List.takeWhile_cons, List.dropWhile_cons, if_neg h, if_neg h]; rfl

theorem V_strip (l : List UInt8) : V (strip l) = V l := by
  rw [strip_eq]
  induction l with
  | nil => rfl
  | cons c l ih =>
    by_cases h : (c == 48) = true
    · have hc : c = 48 := by simpa using h
      rw [List.dropWhile_cons, if_pos h, ih, V_cons, hc]
      simp [dg]
    · rw [List.dropWhile_cons, if_neg h]

theorem strip_dig (l : List UInt8) (h : l.all isDig = true) : (strip l).all isDig = true := by
  simp only [List.all_eq_true] at h ⊢
  intro x hx
  exact h x (List.mem_of_mem_drop hx)

/-- a stripped text that is not empty is at least a power of ten -/
theorem strip_ge (l : List UInt8) (h : l.all isDig = true) (n : Nat) (hn : n < (strip l).length) : 10 ^ n ≤ V (strip l) := by
  have hd := strip_dig l h
  have hs := strip_eq l
  generalize strip l = t at *
  match t with
  | [] => simp at hn
  | c :: t =>
    have hc : ¬ (c == 48) = true := by
      intro hc
      have := List.head?_dropWhile_not (· == (48 : UInt8)) l
      rw [← hs] at this
      simp at this
      exact this (by simpa using hc)
    simp only [List.all_cons, Bool.and_eq_true] at hd
    have d := dg_of hd.1
    have v := V_lt t hd.2
    rw [V_cons]
    have h1 : 1 ≤ dg c := by
      have : c.toNat ≠ 48 := by
        intro e
        apply hc
        have : c = 48 := UInt8.toNat_inj.mp (by simpa using e)
        simp [this]
      omega
    simp only [List.length_cons] at hn
    have hp : (10 : Int) ^ n ≤ 10 ^ t.length := ten_mono (by omega)
    have hq : (0 : Int) < 10 ^ t.length := Int.pow_pos (by decide)
    generalize (10 : Int) ^ t.length = p at *
    have : 1 * p ≤ dg c * p := Int.mul_le_mul_of_nonneg_right h1 (by omega)
    omega

theorem cmpD_sgn (a b : List UInt8) (ha : a.all isDig = true) (hb : b.all isDig = true) : cmpD a b = sgn (V a) (V b) := by
  rw [← V_strip a, ← V_strip b]
  have da := strip_dig a ha
  have db := strip_dig b hb
  have va := V_lt _ da
  have vb := V_lt _ db
  unfold cmpD
  by_cases h1 : (strip a).length < (strip b).length
  · rw [if_pos h1]
    have := strip_ge b hb _ h1
    unfold sgn
    rw [if_pos (by omega)]
  · rw [if_neg h1]
    by_cases h2 : (strip b).length < (strip a).length
    · rw [if_pos h2]
      have := strip_ge a ha _ h2
      unfold sgn
      rw [if_neg (by omega), if_pos (by omega)]
    · rw [if_neg h2]
      exact cmpB_sgn _ _ (by omega) da db

theorem fits_lt (l : List UInt8) (h : fits l = true) : l.all isDig = true ∧ 0 ≤ V l ∧ V l < 18446744073709551616 := by
  unfold fits at h
  simp only [Bool.and_eq_true] at h
  refine ⟨h.1, ?_⟩
  have hd := strip_dig l h.1
  have hv := V_lt _ hd
  rw [← V_strip l]
  refine ⟨hv.1, ?_⟩
  have h2 := h.2
  split at h2
  · rename_i h3
    have hp : (10 : Int) ^ (strip l).length ≤ 10 ^ 19 := ten_mono (by omega)
    omega
  · split at h2
    · simp at h2
    · have h3 : (strip l).length = maxL.length := by show _ = 20; omega
      have hc := cmpB_sgn _ _ h3 hd (by decide)
      have hm : V maxL = 18446744073709551615 := by decide
      simp only [decide_eq_true_eq] at h2
      rw [hc, hm] at h2
      unfold sgn at h2
      split at h2
      · omega
      · split at h2
        · omega
        · omega

/-- the law -/
theorem orders (a b : List UInt8) (ha : fits a = true) (hb : fits b = true) : sgn (m64 (V a)) (m64 (V b)) = cmpD a b := by
  have fa := fits_lt a ha
  have fb := fits_lt b hb
  rw [m64_id _ fa.2.1 fa.2.2, m64_id _ fb.2.1 fb.2.2, cmpD_sgn a b fa.1 fb.1]
end Go.Proofs.Qxb6617574a.Money
