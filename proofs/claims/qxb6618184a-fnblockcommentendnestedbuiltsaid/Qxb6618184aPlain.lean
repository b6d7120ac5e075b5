/- Plain laws on nested comments: no Go in sight. -/
namespace Go.Proofs.Qxb6618184a.Comment
/-- From position k on, in the text l that is left there, d comments being open (d at least 1): where the outermost ends; none: the text ends first. -/
def scanL (d k : Nat) : List UInt8 → Option Nat
  | [] => none
  | c :: r =>
    match r with
    | [] => none
    | c2 :: r2 =>
      if c = 42 ∧ c2 = 47 then (if d = 1 then some (k + 2) else scanL (d - 1) (k + 2) r2)
      else if c = 47 ∧ c2 = 42 then scanL (d + 1) (k + 2) r2
      else scanL d (k + 1) (c2 :: r2)

theorem scanL_nil (d k : Nat) : scanL d k [] = none := by rw [scanL]
theorem scanL_one (d k : Nat) (c : UInt8) : scanL d k [c] = none := by rw [scanL]
theorem scanL_two (d k : Nat) (c c2 : UInt8) (r : List UInt8) : scanL d k (c :: c2 :: r) =
      if c = 42 ∧ c2 = 47 then (if d = 1 then some (k + 2) else scanL (d - 1) (k + 2) r)
      else if c = 47 ∧ c2 = 42 then scanL (d + 1) (k + 2) r
      else scanL d (k + 1) (c2 :: r) := by rw [scanL]

def scan (l : List UInt8) (d j : Nat) : Option Nat := scanL d j (l.drop j)

theorem drop2 (l : List UInt8) (j : Nat) (h : j + 1 < l.length) : l.drop j = l[j] :: l[j + 1] :: l.drop (j + 2) := by
  rw [List.drop_eq_getElem_cons (by omega), List.drop_eq_getElem_cons h]
theorem scan_end (l : List UInt8) (d j : Nat) (h : l.length ≤ j + 1) : scan l d j = none := by
  unfold scan
  by_cases h1 : j < l.length
  · rw [List.drop_eq_getElem_cons h1, List.drop_of_length_le h, scanL_one]
  · rw [List.drop_of_length_le (by omega), scanL_nil]
theorem scan_step (l : List UInt8) (d j : Nat) (h : j + 1 < l.length) : scan l d j =
      if l[j] = 42 ∧ l[j + 1] = 47 then (if d = 1 then some (j + 2) else scan l (d - 1) (j + 2))
      else if l[j] = 47 ∧ l[j + 1] = 42 then scan l (d + 1) (j + 2)
      else scan l d (j + 1) := by
  unfold scan
  rw [drop2 l j h, scanL_two, List.drop_eq_getElem_cons h]

theorem scan_close (l : List UInt8) (j : Nat) (h : j + 1 < l.length) (h1 : l[j] = 42) (h2 : l[j + 1] = 47) : scan l 1 j = some (j + 2) := by
  rw [scan_step l 1 j h, if_pos ⟨h1, h2⟩, if_pos rfl]
theorem scan_less (l : List UInt8) (d j : Nat) (h : j + 1 < l.length) (h1 : l[j] = 42) (h2 : l[j + 1] = 47) (hd : 1 ≤ d) : scan l (d + 1) j = scan l d (j + 2) := by
  rw [scan_step l (d + 1) j h, if_pos ⟨h1, h2⟩, if_neg (by omega)]; rfl
theorem scan_open (l : List UInt8) (d j : Nat) (h : j + 1 < l.length) (h1 : l[j] = 47) (h2 : l[j + 1] = 42) : scan l d j = scan l (d + 1) (j + 2) := by
  rw [scan_step l d j h, if_neg (fun h => absurd (h1.symm.trans h.1) (by decide)), if_pos ⟨h1, h2⟩]
theorem scan_other (l : List UInt8) (d j : Nat) (h : j + 1 < l.length) (h1 : ¬ (l[j] = 42 ∧ l[j + 1] = 47)) (h2 : ¬ (l[j] = 47 ∧ l[j + 1] = 42)) : scan l d j = scan l d (j + 1) := by
  rw [scan_step l d j h, if_neg h1, if_neg h2]
theorem scan_last (l : List UInt8) (d j : Nat) (h : l.length ≤ j + 1) : scan l d j = scan l d (j + 1) := by
  rw [scan_end l d j h, scan_end l d (j + 1) (by omega)]

/-- to close c + d comments: close c, then d -/
theorem scan_bind (l : List UInt8) : ∀ (n j c d : Nat), l.length - j ≤ n → 1 ≤ c → 1 ≤ d →
    scan l (c + d) j = (scan l c j).bind fun e => scan l d e := by
  intro n
  induction n with
  | zero => intro j c d hn _ _; rw [scan_end l _ j (by omega), scan_end l _ j (by omega)]; rfl
  | succ n ih =>
    intro j c d hn hc hd
    by_cases h : j + 1 < l.length
    · rw [scan_step l (c + d) j h, scan_step l c j h]
      split
      · rw [if_neg (by omega)]
        split
        · rename_i h1; subst h1; rw [show 1 + d - 1 = d by omega]; rfl
        · rw [show c + d - 1 = (c - 1) + d by omega]; exact ih (j + 2) (c - 1) d (by omega) (by omega) hd
      · split
        · rw [show c + d + 1 = (c + 1) + d by omega]; exact ih (j + 2) (c + 1) d (by omega) (by omega) hd
        · exact ih (j + 1) c d (by omega) hc hd
    · rw [scan_end l _ j (by omega), scan_end l _ j (by omega)]; rfl

theorem scan_range (l : List UInt8) : ∀ (n j d e : Nat), l.length - j ≤ n → scan l d j = some e → j + 2 ≤ e ∧ e ≤ l.length := by
  intro n
  induction n with
  | zero => intro j d e hn h; rw [scan_end l _ j (by omega)] at h; exact absurd h (by simp)
  | succ n ih =>
    intro j d e hn h
    by_cases hj : j + 1 < l.length
    · rw [scan_step l d j hj] at h
      split at h
      · split at h
        · simp at h; omega
        · have := ih (j + 2) _ e (by omega) h; omega
      · split at h
        · have := ih (j + 2) _ e (by omega) h; omega
        · have := ih (j + 1) _ e (by omega) h; omega
    · rw [scan_end l _ j (by omega)] at h; exact absurd h (by simp)

/-- the nested comment that opens at j, read whole: none -/
theorem scan_nest_none (l : List UInt8) (j : Nat) (h : j + 1 < l.length) (h1 : l[j] = 47) (h2 : l[j + 1] = 42) (hn : scan l 1 (j + 2) = none) : scan l 1 j = none := by
  rw [scan_open l 1 j h h1 h2, scan_bind l (l.length) (j + 2) 1 1 (by omega) (by omega) (by omega), hn]; rfl
theorem scan_nest_some (l : List UInt8) (j e : Nat) (h : j + 1 < l.length) (h1 : l[j] = 47) (h2 : l[j + 1] = 42) (hn : scan l 1 (j + 2) = some e) : scan l 1 j = scan l 1 e := by
  rw [scan_open l 1 j h h1 h2, scan_bind l (l.length) (j + 2) 1 1 (by omega) (by omega) (by omega), hn]; rfl

/-- the two bytes c, d stand at place j -/
def at2 (l : List UInt8) (j : Nat) (c d : UInt8) : Bool := decide ((l.drop j).take 2 = [c, d])
theorem at2_iff (l : List UInt8) (j : Nat) (c d : UInt8) : at2 l j c d = true ↔ ∃ h : j + 1 < l.length, l[j] = c ∧ l[j + 1] = d := by
  unfold at2
  rw [decide_eq_true_iff]
  by_cases h : j + 1 < l.length
  · have e : (l.drop j).take 2 = [l[j], l[j + 1]] := by rw [drop2 l j h]; rfl
    rw [e]
    simp [h]
  · constructor
    · intro e
      have := congrArg List.length e
      simp at this
      omega
    · intro e; exact absurd e.1 h
theorem at2_lt {l : List UInt8} {j : Nat} {c d : UInt8} (h : at2 l j c d = true) : j + 1 < l.length := ((at2_iff l j c d).mp h).1
theorem step_open {l : List UInt8} {d j : Nat} (h : at2 l j 47 42 = true) : scan l d j = scan l (d + 1) (j + 2) := by
  obtain ⟨h, h1, h2⟩ := (at2_iff l j 47 42).mp h
  exact scan_open l d j h h1 h2
theorem step_close {l : List UInt8} {j : Nat} (h : at2 l j 42 47 = true) : scan l 1 j = some (j + 2) := by
  obtain ⟨h, h1, h2⟩ := (at2_iff l j 42 47).mp h
  exact scan_close l j h h1 h2
theorem step_less {l : List UInt8} {d j : Nat} (h : at2 l j 42 47 = true) (hd : 1 ≤ d) : scan l (d + 1) j = scan l d (j + 2) := by
  obtain ⟨h, h1, h2⟩ := (at2_iff l j 42 47).mp h
  exact scan_less l d j h h1 h2 hd
theorem step_other {l : List UInt8} {d j : Nat} (h1 : at2 l j 42 47 = false) (h2 : at2 l j 47 42 = false) : scan l d j = scan l d (j + 1) := by
  by_cases h : j + 1 < l.length
  · refine scan_other l d j h (fun e => ?_) (fun e => ?_)
    · rw [(at2_iff l j 42 47).mpr ⟨h, e⟩] at h1; exact absurd h1 (by decide)
    · rw [(at2_iff l j 47 42).mpr ⟨h, e⟩] at h2; exact absurd h2 (by decide)
  · exact scan_last l d j (by omega)
theorem step_nest_none {l : List UInt8} {j : Nat} (h : at2 l j 47 42 = true) (hn : scan l 1 (j + 2) = none) : scan l 1 j = none := by
  obtain ⟨h, h1, h2⟩ := (at2_iff l j 47 42).mp h
  exact scan_nest_none l j h h1 h2 hn
theorem step_nest_some {l : List UInt8} {j e : Nat} (h : at2 l j 47 42 = true) (hn : scan l 1 (j + 2) = some e) : scan l 1 j = scan l 1 e := by
  obtain ⟨h, h1, h2⟩ := (at2_iff l j 47 42).mp h
  exact scan_nest_some l j e h h1 h2 hn
theorem not_both {l : List UInt8} {j : Nat} (h : at2 l j 47 42 = true) : at2 l j 42 47 = false := by
  cases e : at2 l j 42 47 with
  | false => rfl
  | true =>
    obtain ⟨_, h1, _⟩ := (at2_iff l j 47 42).mp h
    obtain ⟨_, h2, _⟩ := (at2_iff l j 42 47).mp e
    rw [h1] at h2; exact absurd h2 (by decide)
/-- what the recursive reader answers: the end, or -1 -/
def cc (l : List UInt8) (j : Nat) : Int := match scan l 1 j with | some e => (e : Int) | none => -1
theorem cc_some {l : List UInt8} {j e : Nat} (h : scan l 1 j = some e) : cc l j = e := by unfold cc; rw [h]
theorem cc_none {l : List UInt8} {j : Nat} (h : scan l 1 j = none) : cc l j = -1 := by unfold cc; rw [h]

/-! ### the built text -/
def sp1 (c : UInt8) : List UInt8 := if c = 47 ∨ c = 42 then [c, 32] else [c]
def spaced (t : List UInt8) : List UInt8 := t.flatMap sp1
theorem spaced_nil : spaced [] = [] := rfl
theorem spaced_cons (c : UInt8) (t : List UInt8) : spaced (c :: t) = sp1 c ++ spaced t := rfl
theorem spaced_snoc (t : List UInt8) (c : UInt8) : spaced (t ++ [c]) = spaced t ++ sp1 c := by simp [spaced]
theorem sp1_len (c : UInt8) : 1 ≤ (sp1 c).length ∧ (sp1 c).length ≤ 2 := by unfold sp1; split <;> simp
theorem spaced_len (t : List UInt8) : (spaced t).length ≤ 2 * t.length := by
  induction t with
  | nil => simp [spaced]
  | cons c t ih => rw [spaced_cons, List.length_append, List.length_cons]; have := sp1_len c; omega

theorem scanL_plain (d k : Nat) (c : UInt8) (r : List UInt8) (h1 : c ≠ 42) (h2 : c ≠ 47) : scanL d k (c :: r) = scanL d (k + 1) r := by
  cases r with
  | nil => rw [scanL_one, scanL_nil]
  | cons c2 r => rw [scanL_two, if_neg (fun h => h1 h.1), if_neg (fun h => h2 h.1)]
theorem scanL_sp1 (d k : Nat) (c : UInt8) (r : List UInt8) : scanL d k (sp1 c ++ r) = scanL d (k + (sp1 c).length) r := by
  unfold sp1
  split
  · show scanL d k (c :: 32 :: r) = scanL d (k + 2) r
    rw [scanL_two, if_neg (fun h => absurd h.2 (by decide)), if_neg (fun h => absurd h.2 (by decide)), scanL_plain d (k + 1) 32 r (by decide) (by decide)]
  · rename_i h
    exact scanL_plain d k c r (fun e => h (.inr e)) (fun e => h (.inl e))
theorem scanL_spaced (d : Nat) (t r : List UInt8) : ∀ k, scanL d k (spaced t ++ r) = scanL d (k + (spaced t).length) r := by
  induction t with
  | nil => intro k; simp [spaced]
  | cons c t ih =>
    intro k
    rw [spaced_cons, List.append_assoc, scanL_sp1, ih, List.length_append, Nat.add_assoc]

def built (p a b c u : List UInt8) : List UInt8 := p ++ [47, 42] ++ spaced a ++ [47, 42] ++ spaced b ++ [42, 47] ++ spaced c ++ [42, 47] ++ u

theorem scan_built (p a b c u : List UInt8) :
    scan (built p a b c u) 1 (p.length + 2) = some (p.length + 8 + (spaced a).length + (spaced b).length + (spaced c).length) := by
  have h : (built p a b c u).drop (p.length + 2) = spaced a ++ (47 :: 42 :: (spaced b ++ (42 :: 47 :: (spaced c ++ (42 :: 47 :: u))))) := by
    unfold built
    simp only [List.append_assoc, List.cons_append, List.nil_append]
    rw [List.drop_append, List.drop_of_length_le (by omega)]
    simp [show p.length + 2 - p.length = 2 by omega]
  unfold scan
  rw [h, scanL_spaced, scanL_two, if_neg (by decide), if_pos (by decide), scanL_spaced, scanL_two, if_pos (by decide), if_neg (by decide), scanL_spaced, scanL_two, if_pos (by decide), if_pos (by decide)]
  congr 1
  omega
end Go.Proofs.Qxb6618184a.Comment
