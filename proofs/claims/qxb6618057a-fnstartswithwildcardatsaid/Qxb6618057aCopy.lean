/- 'make, then copy': a fresh copy of a row that came in. -/
import Derived.Test.Qxb6618057aFill
import Derived.Laws.CopyOwn
namespace Go.Proofs.Qxb6618057a
open Go.ChangeShapes Go.WideShapes Go.ChangeAt Go.RowKit
theorem Try.info5 : (Try.prog.info? 5).map (fun i => (i.zero, i.size, i.bytes)) = some (some (.int .u8 0), 1, 1) := by kernel_rfl
theorem Try.one5 : (Try.prog.info? 5).map (·.size) = some 1 := by kernel_rfl
theorem Try.one3 : (Try.prog.info? 3).map (·.size) = some 1 := by kernel_rfl

theorem copy_made (T e : TypeId) (k : IntKind) (hu : Try.prog.underlying T = some (.slice e)) (hs : (Try.prog.info? e).map (·.size) = some 1) (w : World) (x : Addr) (n c : Nat) (f : Nat → Int)
    (hc : ∀ i, i < n → w.cell? (x.add i) = some (.int k (f i))) :
    ∃ w2, (∀ ty, (Builtin.copy_ #[T, T] ty #[.slice (some ⟨w.heap.size, 0, none⟩) n n, .slice (some x) n c]).run Try.prog (w.alloc (.cells (madeCells #[.int k 0] n) e)) = .ok (.int .i64 n) w2) ∧
      w2.rowIs w.heap.size e n (fun i => .int k (f i)) ∧ Below w.heap.size w w2 := by
  have hnew : (w.alloc (.cells (madeCells #[.int k 0] n) e)).heap[w.heap.size]? = some (.cells (madeCells #[.int k 0] n) e (0, 0)) := by
    show (w.heap.push _)[w.heap.size]? = _
    simp
  have hb1 : Below w.heap.size w (w.alloc (.cells (madeCells #[.int k 0] n) e)) := (Below.refl _ _).alloc (Nat.le_refl _) _
  have hl : ((List.range n).map fun i => Value.int k (f i)).length = n := by simp
  have hrun := fun ty => run_copy_row (P := Try.prog) (w.alloc (.cells (madeCells #[.int k 0] n) e)) T T ty e w.heap.size 0 n n x n c _ e ((List.range n).map fun i => Value.int k (f i)) hu hs hnew
    (by rw [hl]; exact (Nat.min_self n).symm)
    (by
      intro j v hj
      have hjn : j < n := by
        have := List.getElem?_eq_some_iff.1 hj
        obtain ⟨h, _⟩ := this
        simpa using h
      have hv : v = .int k (f j) := by simpa [hjn] using hj.symm
      have hx := World.block_lt_of_cell? w _ (hc j hjn)
      rw [hb1.cell hx, hc j hjn, hv])
    (by rw [hl, size_madeCells]; omega)
    (by intro v hv; simp at hv; obtain ⟨i, _, rfl⟩ := hv; rfl)
  refine ⟨(World.alloc w (.cells (madeCells #[.int k 0] n) e)).setRow w.heap.size ((List.range n).map fun i => Value.int k (f i)).toArray, fun ty => ?_, ?_, ?_⟩
  · rw [hrun ty, hl]
    have e1 : List.take 0 (madeCells #[Value.int k 0] n).toList ++ (List.range n).map (fun i => Value.int k (f i)) ++ List.drop (0 + n) (madeCells #[Value.int k 0] n).toList = (List.range n).map (fun i => Value.int k (f i)) := by
      rw [List.drop_of_length_le (by simp [size_madeCells])]; simp
    rw [e1]; rfl
  · exact ⟨_, setRow_heap _ _ _ _ _ _ hnew, by simp, fun i hi => by simp [hi]⟩
  · exact below_setRow hb1 (Nat.le_refl _) _
end Go.Proofs.Qxb6618057a
