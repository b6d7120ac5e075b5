/- Laws on startsWith's plain function: cuts, fills, wildcards; rows carried on. -/
import Derived.Test.Qxb6618057aCopy
import Derived.Deep.Draws
namespace Go.Proofs.Qxb6618057a
open Go.ChangeShapes Go.WideShapes Go.ChangeAt Go.RowKit

theorem bool_ext {a b : Bool} (h : a = true ↔ b = true) : a = b := by cases a <;> cases b <;> simp_all

theorem sw_cut (n m j : Nat) (fb fo : Nat → Int) (hj : j ≤ m) (hjn : j ≤ n) :
    sw n m fb fo = (sw n j fb fo && sw (n - j) (m - j) (fun i => fb (j + i)) (fun i => fo (j + i))) := by
  apply bool_ext
  rw [Bool.and_eq_true, sw_iff, sw_iff, sw_iff]
  constructor
  · intro h
    exact ⟨⟨hjn, fun i hi => h.2 i (by omega)⟩, by omega, fun i hi => h.2 (j + i) (by omega)⟩
  · intro h
    refine ⟨by omega, fun i hi => ?_⟩
    by_cases hij : i < j
    · exact h.1.2 i hij
    · have := h.2.2 (i - j) (by omega)
      rwa [show j + (i - j) = i by omega] at this

theorem sw_fill (n m : Nat) (fb fo : Nat → Int) : sw n m fb (fill n fb fo) = decide (m ≤ n) := by
  apply bool_ext
  rw [sw_iff, decide_eq_true_iff]
  constructor
  · intro h; exact h.1
  · intro h
    refine ⟨h, fun i hi => ?_⟩
    unfold fill
    by_cases e : fo i = -1
    · left; rw [if_neg (fun x => x.1 e)]; exact e
    · right; rw [if_pos ⟨e, by omega⟩]
theorem fill_eq (n m : Nat) (fb fo : Nat → Int) : (sw n m fb (fill n fb fo) == decide (m ≤ n)) = true := by
  rw [sw_fill]; simp
theorem fill_false {n m : Nat} {fb fo : Nat → Int} (h : n < m) : (sw n m fb (fill n fb fo) == false) = true := by
  rw [sw_short h]; rfl
theorem undrew {B m : Nat} {w w' : World} (h : Below B (w.drewN m) w') : Below B w w' := ⟨h.os, h.tape, h.output, h.size, h.block⟩

theorem Row.below {k : IntKind} {w w' : World} {a : Option Addr} {n : Nat} {f : Nat → Int} (h : Row k w a n f) (hb : Below w.heap.size w w') : Row k w' a n f := by
  rcases h with h | ⟨b, off, ha, hc⟩
  · exact .inl h
  · exact .inr ⟨b, off, ha, fun i hi => (hb.cell (World.block_lt_of_cell? w _ (hc i hi))).trans (hc i hi)⟩
theorem Row.drewN {k : IntKind} {w : World} {a : Option Addr} {n : Nat} {f : Nat → Int} (h : Row k w a n f) (m : Nat) : Row k (w.drewN m) a n f := h
theorem Row.take {k : IntKind} {w : World} {a : Option Addr} {n m : Nat} {f : Nat → Int} (h : Row k w a n f) (hm : m ≤ n) : Row k w a m f := by
  rcases h with h | ⟨b, off, ha, hc⟩
  · exact .inl (by omega)
  · exact .inr ⟨b, off, ha, fun i hi => hc i (by omega)⟩
theorem Row.of_row {k : IntKind} {w : World} {b : Nat} {t : TypeId} {n : Nat} {f : Nat → Int} (h : w.rowIs b t n (fun i => .int k (f i))) : Row k w (some ⟨b, 0, none⟩) n f :=
  .inr ⟨b, 0, rfl, fun i hi => by rw [Nat.zero_add]; exact h.cell hi⟩
/-- the row from place j on: its address is whatever it is where nothing is left -/
theorem Row.cut {k : IntKind} {w : World} {a a' : Option Addr} {n : Nat} {f : Nat → Int} (j : Nat) (h : Row k w a n f) (ha : ∀ b off, a = some ⟨b, off, none⟩ → j < n → a' = some ⟨b, off + j, none⟩) : Row k w a' (n - j) (fun i => f (j + i)) := by
  by_cases hj : j < n
  · rcases h with h | ⟨b, off, e, hc⟩
    · omega
    · refine .inr ⟨b, off + j, ha b off e hj, fun i hi => ?_⟩
      have := hc (j + i) (by omega)
      rwa [← Nat.add_assoc] at this
  · exact .inl (by omega)
theorem Row.cut_new {k : IntKind} {w : World} {g n : Nat} {f : Nat → Int} (j : Nat) (h : Row k w (some ⟨g, 0, none⟩) n f) : Row k w (if n = j then some ⟨g, 0, none⟩ else some ⟨g, j, none⟩) (n - j) (fun i => f (j + i)) :=
  h.cut j fun b off e hj => by
    cases e
    rw [if_neg (by omega), Nat.zero_add]
theorem Row.cut_nil {k : IntKind} {w : World} {n : Nat} {f : Nat → Int} (j : Nat) (h : Row k w none n f) : Row k w none (n - j) (fun i => f (j + i)) :=
  h.cut j fun b off e _ => by cases e
end Go.Proofs.Qxb6618057a
