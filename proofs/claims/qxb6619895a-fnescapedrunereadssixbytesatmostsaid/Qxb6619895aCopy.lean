/-
  'zzc := make([]byte, len(b)); copy(zzc, b)': what lies in the new row.
-/
import Derived.Test.Qxb6619895aEsc
import Derived.Laws.CopyOwn
import Derived.Deep.OwnRows
import Derived.Below
import Derived.OpenShut
namespace Go.Proofs.Qxb6619895a.Hex
open Go.RowKit

theorem info5 : (Try.prog.info? 5).map (fun i => (i.zero, i.size, i.bytes)) = some (some (.int .u8 0), 1, 1) := by kernel_rfl
theorem size5 : (Try.prog.info? 5).map (·.size) = some 1 := by kernel_rfl

/-- The first n numbers as bytes' cells. -/
def cellsOf (zs : List Int) (n : Nat) : List Value := (zs.take n).map fun z => Value.int .u8 z

theorem cellsOf_length (zs : List Int) (n : Nat) (h : n ≤ zs.length) : (cellsOf zs n).length = n := by
  simp [cellsOf]; omega

theorem cellsOf_get (zs : List Int) (n j : Nat) (v : Value) (h : (cellsOf zs n)[j]? = some v) : j < n ∧ j < zs.length ∧ v = .int .u8 (zs.getD j 0) := by
  simp only [cellsOf, List.getElem?_map, Option.map_eq_some_iff, List.getElem?_take] at h
  obtain ⟨z, hz, rfl⟩ := h
  split at hz
  · rename_i hj
    have hlt := (List.getElem?_eq_some_iff.1 hz).1
    exact ⟨hj, hlt, by simp [hz]⟩
  · cases hz

theorem cellsOf_at (zs : List Int) (n j : Nat) (hj : j < n) (hz : j < zs.length) : (cellsOf zs n)[j]? = some (.int .u8 (zs.getD j 0)) := by
  simp [cellsOf, hj, hz]

theorem cellsOf_one (zs : List Int) (n : Nat) : ∀ v ∈ cellsOf zs n, v.oneCell' = true := by
  intro v hv
  obtain ⟨z, _, rfl⟩ := List.mem_map.1 hv
  rfl

/-- Each number of a row of bytes fits a byte (and 0, which stands past its end). -/
theorem row_bd (zs : List Int) (h : ∀ n ∈ zs, (Lit.int .u8 n).wf = true) (i : Nat) : 0 ≤ zs.getD i 0 ∧ zs.getD i 0 ≤ 255 := by
  by_cases hi : i < zs.length
  · have e : zs.getD i 0 = zs[i] := by simp [List.getD, hi]
    rw [e]
    exact bounds_u8 (h _ (List.getElem_mem hi))
  · have e : zs.getD i 0 = 0 := by simp [List.getD, hi]
    rw [e]; omega

/-- A row that is known whole: its cells. -/
theorem row_cell {w : World} {g : Nat} {cur : Array Value} {t : TypeId} (h : w.heap[g]? = some (.cells cur t (0, 0))) (i : Nat) : w.cell? ⟨g, i, none⟩ = cur[i]? :=
  cell_of_row w g i cur t (0, 0) h

theorem copy_ok (x : Addr) (len cap : Nat) (zs : List Int) (w : World) (hl : len ≤ zs.length)
    (hc : ∀ i, i < zs.length → w.cell? (x.add i) = some (.int .u8 (zs.getD i 0))) :
    ∃ w1, (∀ ty, (Builtin.copy_ #[22, 22] ty #[.slice (some ⟨w.heap.size, 0, none⟩) len len, .slice (some x) len cap]).run Try.prog (w.alloc (.cells (madeCells #[.int .u8 0] len) 5)) = .ok (goInt len) w1) ∧
      Below w.heap.size w w1 ∧ w1.heap.size = w.heap.size + 1 ∧ ∀ i, i < len → w1.cell? ⟨w.heap.size, i, none⟩ = some (.int .u8 (zs.getD i 0)) := by
  have hg : (w.alloc (.cells (madeCells #[.int .u8 0] len) 5)).heap[w.heap.size]? = some (.cells (madeCells #[.int .u8 0] len) 5 (0, 0)) := heap_alloc_new w _
  have hlen := cellsOf_length zs len hl
  have hsrc : ∀ j v, (cellsOf zs len)[j]? = some v → (w.alloc (.cells (madeCells #[.int .u8 0] len) 5)).cell? (x.add j) = some v := by
    intro j v hv
    obtain ⟨h1, h2, rfl⟩ := cellsOf_get zs len j v hv
    have := hc j h2
    rw [World.cell?_alloc_old]
    · exact this
    · exact Nat.ne_of_lt (World.block_lt_of_cell? w _ this)
  have hrun := fun ty => run_copy_row (P := Try.prog) (w.alloc (.cells (madeCells #[.int .u8 0] len) 5)) 22 22 ty 5 w.heap.size 0 len len x len cap (madeCells #[.int .u8 0] len) 5 (cellsOf zs len) Try.underlying22 size5 hg (by rw [hlen]; exact (Nat.min_self _).symm) hsrc (by rw [hlen, size_madeCells]; omega) (cellsOf_one zs len)
  refine ⟨_, fun ty => by rw [hrun ty, hlen], below_setRow ((Below.refl _ _).alloc (Nat.le_refl _) _) (Nat.le_refl _) _, by simp [World.setRow], ?_⟩
  intro i hi
  rw [row_cell (setRow_heap _ _ _ _ _ _ hg)]
  have e := cellsOf_at zs len i hi (by omega)
  simp only [List.take_zero, List.nil_append, List.getElem?_toArray]
  rw [List.getElem?_append_left (by omega)]
  exact e

end Go.Proofs.Qxb6619895a.Hex
