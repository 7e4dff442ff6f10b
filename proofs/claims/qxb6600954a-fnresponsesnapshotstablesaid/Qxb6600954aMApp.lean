/-
  Seat b6600954a: a new call appended to the model's calls.
-/
import Derived.Test.Qxb6600954aMWalk
namespace Go.Proofs.Qxb6600954a
open Go.RowKit

theorem info50 : ∃ i z, Try.prog.info? 50 = some i ∧ i.zero = some z ∧ i.size = 4 ∧ i.bytes = 64 ∧ z.cells.size = 4 := by
  have h : (Try.prog.info? 50).map (fun i => (i.zero.map (·.cells.size), i.size, i.bytes)) = some (some 4, 4, 64) := by kernel_rfl
  obtain ⟨i, hi, he⟩ := Option.map_eq_some_iff.1 h
  simp only [Prod.mk.injEq] at he
  obtain ⟨z, hz, hzs⟩ := Option.map_eq_some_iff.1 he.1
  exact ⟨i, z, hi, hz, he.2.1, he.2.2, hzs⟩

/-- an append whose run is known, for the walk -/
theorem wpList_append_run {P : Program} (w : World) {ops : Array Oper} {rest : List Oper} {o : Oper} {a : Act} {Q : Exit → Act → World → Prop} (hgd : o.guard = none) (d s : Operand) (t t' : TypeId)
    (ho : o.op = .call { callee := .builtin .append, args := #[d, s], argTypes := #[t, t'] }) (v u : Value) (hd : a.eval d = v) (hs : a.eval s = u) {v' : Value} {w' : World}
    (hr : (Builtin.append_ #[t, t'] o.type #[v, u]).run P w = .ok v' w') (hK : wpList P ops Q rest (a.put o.dst v') w') : wpList P ops Q (o :: rest) a w := by
  refine wpList_plain hgd fun K hK' => ?_
  unfold Oper.wp
  simp [execOp, ho, Go.resolve, invoke, builtin, hd, hs, hr, Result.andThen]
  exact hK' _ _ hK

abbrev litCells (idx : Int) : Array Value := #[.int .i64 idx, .string ⟨#[]⟩, .string ⟨#[]⟩, .slice none 0 0]

theorem MHolds.app {B S : Nat} {s : MSt} {ph : Phys} {w : World} (h : MHolds B S s ph w) (idx : Int) (hn : s.calls.length ≤ 100000) (ty : TypeId) :
    ∃ v W, (Builtin.append_ #[29, 29] ty #[ph.cv, .slice (some ⟨w.heap.size, 0, none⟩) 1 1]).run Try.prog (w.alloc (.cells (litCells idx) 50)) = .ok v W ∧
      MHolds B S (s.begin idx) (ph.withMCall w.heap.size s.calls.length v) ((W.setCell ⟨S, 0, none⟩ v).setCell ⟨S, 1, none⟩ (.int .i64 s.calls.length)) ∧
      Grows ph w (ph.withMCall w.heap.size s.calls.length v) ((W.setCell ⟨S, 0, none⟩ v).setCell ⟨S, 1, none⟩ (.int .i64 s.calls.length)) ∧
      (∃ a c, v = .slice a (s.calls.length + 1) c) ∧ W.heap[S]? = w.heap[S]? := by
  obtain ⟨i, z, hi, hz, hsz, hby, hzs⟩ := info50
  have hS := h.labs _ _ h.labS
  obtain ⟨v, W, hr, ho, hg, hf⟩ := run_append_src (P := Try.prog) (w.alloc (.cells (litCells idx) 50)) B 29 29 ty 50 i z 4 64 Try.underlying29 hi hz hsz hby hzs ph.cv s.calls.length _ (h.row.alloc _) (.slice (some ⟨w.heap.size, 0, none⟩) 1 1) 1 (litCells idx).toList
    (Src.ofSlice _ Try.underlying29 ⟨w.heap.size, 0, none⟩ 1 1 _ (by simp) (fun j u hj => by
      rw [Addr.add_lit]
      simp only [World.cell?, heap_alloc_new]
      simpa using hj) (fun u hu => by
      simp at hu
      rcases hu with rfl | rfl | rfl | rfl <;> rfl)) (by unfold maxLen; omega) (by omega) (by simp; omega)
  have hN := h.newCall (idx := idx) hg hf ho
  refine ⟨v, W, hr, hN.1, hN.2, ?_, ?_⟩
  · rcases ho.2 with ⟨_, h0⟩ | ⟨g, cap, cur, hv, _⟩
    · omega
    · exact ⟨_, _, hv⟩
  · rw [hg.block S (by simp; omega) (fun e => by have := h.labRow S e.symm; rw [h.labS] at this; cases this), Below.heap_alloc _ _ _ hS.2]

end Go.Proofs.Qxb6600954a
