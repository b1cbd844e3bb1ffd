/-
  'joined := make([]byte, 0, len(b)+len(t)); joined = append(joined, b...); joined = append(joined, t...)': the first bytes of what is joined are b's.
-/
import Derived.Test.Qxb6619895aCopy
import Derived.OwnWalk
namespace Go.Proofs.Qxb6619895a.Hex
open Go.RowKit

/-- What a slice of bytes that came in is told by: nil, or a row. -/
def IsBytes (w : World) (a : Option Addr) (len cap : Nat) (zs : List Int) : Prop :=
  (a = none ∧ len = 0 ∧ cap = 0) ∨
  ∃ x, a = some x ∧ len ≤ zs.length ∧ ∀ i, i < zs.length → w.cell? (x.add i) = some (.int .u8 (zs.getD i 0))

theorem IsBytes.carry {w w' : World} {a : Option Addr} {len cap : Nat} {zs : List Int} (h : IsBytes w a len cap zs) (hb : Below w.heap.size w w') : IsBytes w' a len cap zs := by
  rcases h with h | ⟨x, e, hl, hc⟩
  · exact Or.inl h
  · refine Or.inr ⟨x, e, hl, fun i hi => ?_⟩
    have := hc i hi
    rw [hb.cell (World.block_lt_of_cell? w _ this)]
    exact this

/-- A row in block g holds the bytes c 0, c 1, .. up to n, and has room for cap. -/
def Row (w : World) (g n cap : Nat) (c : Nat → Int) : Prop :=
  ∃ cur : Array Value, w.heap[g]? = some (.cells cur 5 (0, 0)) ∧ cur.size = cap ∧ ∀ i, i < n → cur[i]? = some (.int .u8 (c i))

theorem Row.cell {w : World} {g n cap : Nat} {c : Nat → Int} (h : Row w g n cap c) (i : Nat) (hi : i < n) : w.cell? ⟨g, i, none⟩ = some (.int .u8 (c i)) := by
  obtain ⟨cur, hg, _, hc⟩ := h
  rw [row_cell hg]
  exact hc i hi

/-- An append of m bytes onto a row of this kind that has room. -/
theorem app_ok (w : World) (g n cap m c2 : Nat) (c : Nat → Int) (a : Option Addr) (zs : List Int) (hr : Row w g n cap c) (hs : IsBytes w a m c2 zs) (hroom : n + m ≤ cap) :
    ∃ w', (∀ ty, (Builtin.append_ #[22, 22] ty #[.slice (some ⟨g, 0, none⟩) n cap, .slice a m c2]).run Try.prog w = .ok (.slice (some ⟨g, 0, none⟩) (n + m) cap) w') ∧
      w'.heap.size = w.heap.size ∧ (∀ k, k ≠ g → w'.heap[k]? = w.heap[k]?) ∧ w'.os = w.os ∧ w'.tape = w.tape ∧ w'.output = w.output ∧
      Row w' g (n + m) cap (fun i => if i < n then c i else zs.getD (i - n) 0) := by
  obtain ⟨i, hi, hz, hsz, hby⟩ := info_parts info5
  obtain ⟨cur, hg, hcs, hcur⟩ := hr
  rcases hs with ⟨rfl, rfl, rfl⟩ | ⟨x, rfl, hl, hc⟩
  · refine ⟨w, fun ty => ?_, rfl, fun _ _ => rfl, rfl, rfl, rfl, ⟨cur, hg, hcs, fun j hj => ?_⟩⟩
    · have hn : n ≤ cap := by omega
      simp [Builtin.append_, run_underlying Try.underlying22, sizeOf, typeInfo, hi, Builtin.lenOf, Builtin.firstCells, storeCells, hn]
    · show cur[j]? = some (.int .u8 (if j < n then c j else zs.getD (j - n) 0))
      rw [if_pos (by omega)]
      exact hcur j (by omega)
  · have hlen := cellsOf_length zs m hl
    have hnews : ∀ j u, (cellsOf zs m)[j]? = some u → w.cell? (x.add j) = some u := by
      intro j u hu
      obtain ⟨_, h2, rfl⟩ := cellsOf_get zs m j u hu
      exact hc j h2
    have hrun := fun ty => run_append_room (P := Try.prog) w 22 ty 5 i Try.underlying22 hi g n cap cur hg x m c2 (cellsOf zs m) (by rw [hlen, hsz, Nat.mul_one]) hnews (cellsOf_one zs m) hroom (by rw [hlen, hsz, hcs]; omega)
    refine ⟨_, hrun, by simp, fun k hk => setRow_other _ _ _ _ hk, rfl, rfl, rfl, ⟨_, setRow_heap _ _ _ _ _ _ hg, ?_, fun j hj => ?_⟩⟩
    · simp [hsz, hlen, hcs]; omega
    · show _ = some (Value.int .u8 (if j < n then c j else zs.getD (j - n) 0))
      simp only [hsz, Nat.mul_one, List.getElem?_toArray]
      by_cases hjn : j < n
      · rw [if_pos hjn, List.append_assoc, List.getElem?_append_left (by simp; omega), List.getElem?_take, if_pos hjn]
        simpa using hcur j hjn
      · rw [if_neg hjn, List.append_assoc, List.getElem?_append_right (by simp; omega), List.getElem?_append_left (by simp; omega)]
        have e : (cur.toList.take n).length = n := by simp; omega
        rw [e]
        exact cellsOf_at zs m (j - n) (by omega) (by omega)

theorem mk_ok (w : World) (n m : Nat) (hn : n ≤ 1048576) (hm : m ≤ 1048576) :
    (Instr.makeSlice 22 (.int .i64 0) (.int .i64 ((n : Int) + (m : Int)))).run Try.prog w = .ok (.slice (some ⟨w.heap.size, 0, none⟩) 0 (n + m)) (w.alloc (.cells (madeCells #[.int .u8 0] (n + m)) 5)) := by
  obtain ⟨i, hi, hz, hsz, hby⟩ := info_parts info5
  have hr := run_make (P := Try.prog) w 22 5 i (.int .u8 0) Try.underlying22 hi hz .i64 .i64 0 ((n : Int) + (m : Int)) (Int.le_refl _) (by omega) (by rw [hby]; omega) (by omega)
  rw [hr, hsz, show ((n : Int) + (m : Int)).toNat = n + m by omega, Nat.mul_one]
  rfl

theorem take_getD (zs : List Int) (n i : Nat) (h : i < n) : (zs.take n).getD i 0 = zs.getD i 0 := by
  simp [List.getD, h]

theorem join_ok (w : World) (g lb lt ct : Nat) (zb zt : List Int) (a : Option Addr) (hlb : lb ≤ zb.length) (hcell : ∀ i, i < lb → w.cell? ⟨g, i, none⟩ = some (.int .u8 (zb.getD i 0))) (ht : IsBytes w a lt ct zt) :
    ∃ w2 w3, (∀ ty, (Builtin.append_ #[22, 22] ty #[.slice (some ⟨w.heap.size, 0, none⟩) 0 (lb + lt), .slice (some ⟨g, 0, none⟩) lb lb]).run Try.prog (w.alloc (.cells (madeCells #[.int .u8 0] (lb + lt)) 5)) = .ok (.slice (some ⟨w.heap.size, 0, none⟩) lb (lb + lt)) w2) ∧
      (∀ ty, (Builtin.append_ #[22, 22] ty #[.slice (some ⟨w.heap.size, 0, none⟩) lb (lb + lt), .slice a lt ct]).run Try.prog w2 = .ok (.slice (some ⟨w.heap.size, 0, none⟩) (lb + lt) (lb + lt)) w3) ∧
      Below w.heap.size w w3 ∧ ∀ i, i < lb → w3.cell? ⟨w.heap.size, i, none⟩ = some (.int .u8 (zb.getD i 0)) := by
  have b0 : Below w.heap.size w (w.alloc (.cells (madeCells #[.int .u8 0] (lb + lt)) 5)) := (Below.refl _ _).alloc (Nat.le_refl _) _
  have r0 : Row (w.alloc (.cells (madeCells #[.int .u8 0] (lb + lt)) 5)) w.heap.size 0 (lb + lt) (fun _ => 0) :=
    ⟨_, heap_alloc_new w _, size_madeCells _ _, fun i hi => absurd hi (Nat.not_lt_zero i)⟩
  have s0 : IsBytes w (some ⟨g, 0, none⟩) lb lb (zb.take lb) := by
    refine Or.inr ⟨_, rfl, by simp; omega, fun i hi => ?_⟩
    have hi' : i < lb := by simp at hi; omega
    rw [take_getD zb lb i hi', Addr.add_lit, Nat.zero_add]
    exact hcell i hi'
  obtain ⟨w2, e2, z2, o2, os2, tp2, ou2, r2⟩ := app_ok _ w.heap.size 0 (lb + lt) lb lb _ _ _ r0 (s0.carry b0) (by omega)
  rw [Nat.zero_add] at r2 e2
  have b2 : Below w.heap.size w w2 := b0.trans ⟨os2, tp2, ou2, by omega, fun k hk => o2 k (by omega)⟩
  obtain ⟨w3, e3, z3, o3, os3, tp3, ou3, r3⟩ := app_ok w2 w.heap.size lb (lb + lt) lt ct _ _ _ r2 (ht.carry b2) (Nat.le_refl _)
  refine ⟨w2, w3, e2, e3, b2.trans ⟨os3, tp3, ou3, by omega, fun k hk => o3 k (by omega)⟩, fun i hi => ?_⟩
  have h3 := r3.cell i (by omega)
  simp only [hi, if_true, Nat.not_lt_zero, if_false, Nat.sub_zero] at h3
  rw [h3, take_getD zb lb i hi]

/-- An append whose run is known, as a step of the walk. -/
theorem wpList_append_run {P : Program} {w : World} {ops : Array Oper} {rest : List Oper} {o : Oper} {a : Act} {Q : Exit → Act → World → Prop} (hgd : o.guard = none) (s x : Operand)
    (ho : o.op = .call { callee := .builtin .append, args := #[s, x], argTypes := #[22, 22] }) (vs vx : Value) (hs : a.eval s = vs) (hx : a.eval x = vx) (r : Value) (w' : World)
    (hrun : ∀ ty, (Builtin.append_ #[22, 22] ty #[vs, vx]).run P w = .ok r w') (h : wpList P ops Q rest (a.put o.dst r) w') : wpList P ops Q (o :: rest) a w := by
  refine wpList_plain hgd fun K hK => ?_
  unfold Oper.wp
  simp [execOp, ho, resolve, invoke, builtin, hs, hx, hrun, Result.andThen]
  exact hK _ _ h

end Go.Proofs.Qxb6619895a.Hex
