/-
  Seat b6600954a: (*assembly).response (39) and ZZResponseB1 (16) over the state.
-/
import Derived.Test.Qxb6600954aAcc
import Derived.Test.Qxb6600954aFinish
import Derived.Deep.RegionHeld3
namespace Go.Proofs.Qxb6600954a
open Go.RowKit

abbrev sBraces : ByteArray := ⟨#[123, 125]⟩
/-- the arguments as a Response shows them -/
def argOut (a : ByteArray) : ByteArray := if emp a = true then sBraces else a
def tcCells (p : Call) : List Value := [.string p.id, .string p.name, .string (argOut p.args)]
def tcRows (cs : List Call) : List Value := cs.flatMap tcCells

theorem tcRows_snoc (cs : List Call) (k : Nat) (p : Call) (h : cs[k]? = some p) : tcRows (cs.take (k + 1)) = tcRows (cs.take k) ++ tcCells p := by
  unfold tcRows
  rw [List.take_add_one, h]; simp

theorem info52 : ∃ i z, Try.prog.info? 52 = some i ∧ i.zero = some z ∧ i.size = 3 ∧ i.bytes = 48 ∧ z.cells.size = 3 := by
  have h : (Try.prog.info? 52).map (fun i => (i.zero.map (·.cells.size), i.size, i.bytes)) = some (some 3, 3, 48) := by kernel_rfl
  obtain ⟨i, hi, he⟩ := Option.map_eq_some_iff.1 h
  simp only [Prod.mk.injEq] at he
  obtain ⟨z, hz, hzs⟩ := Option.map_eq_some_iff.1 he.1
  exact ⟨i, z, hi, hz, he.2.1, he.2.2, hzs⟩

/-- the finish word of a Response -/
def turns (fi : ByteArray) (n : Nat) : Bool := (normF fi).toList == [115, 116, 111, 112] && decide (0 < n)
def finF (fi : ByteArray) (n : Nat) : ByteArray := if turns fi n = true then sCalls else normF fi
theorem turns_yes {fi : ByteArray} {n : Nat} (h : (normF fi).toList = [115, 116, 111, 112]) (h2 : 0 < n) : turns fi n = true := by simp [turns, h, h2]
theorem turns_no {fi : ByteArray} {n : Nat} (h : ¬ (normF fi).toList = [115, 116, 111, 112] ∨ ¬ 0 < n) : turns fi n = false := by
  unfold turns
  rcases h with h | h
  · have : ((normF fi).toList == [115, 116, 111, 112]) = false := by simpa using h
    rw [this]; rfl
  · simp [h]

/-- a Response as a value -/
abbrev respCells (mo fi : ByteArray) (g n cap : Nat) : Array Value :=
  #[.string mo, .string ⟨#[]⟩, .string ⟨#[]⟩, .string ⟨#[]⟩, .slice (some ⟨g, 0, none⟩) n cap, .string (finF fi n), .string fi, .int .i64 0, .int .i64 0, .int .i64 0, .int .i64 0, .int .i64 0, .int .i64 0]

def RespPost (mo fi : ByteArray) (s : St) (w : World) (e : Ending) (w' : World) : Prop :=
  ∃ g cap, e = .returned (.agg (respCells mo fi g s.calls.length cap)) ∧ w'.ownsRow w.heap.size 52 3 (.slice (some ⟨g, 0, none⟩) s.calls.length cap) s.calls.length (tcRows s.calls) ∧ Below w.heap.size w w'

abbrev respZero : Array Value := #[.string ⟨#[]⟩, .string ⟨#[]⟩, .string ⟨#[]⟩, .string ⟨#[]⟩, .slice none 0 0, .string ⟨#[]⟩, .string ⟨#[]⟩, .int .i64 0, .int .i64 0, .int .i64 0, .int .i64 0, .int .i64 0, .int .i64 0]

theorem cell_blk (w : World) (b i c j : Nat) (v : Value) (h : b ≠ c) : (w.setCell ⟨b, i, none⟩ v).cell? ⟨c, j, none⟩ = w.cell? ⟨c, j, none⟩ :=
  World.cell?_setCell_other _ _ _ _ (fun e => h (by cases e; rfl))

/-- the thirteen stores of a Response -/
theorem resp_store (w : World) (R : Nat) (h : w.heap[R]? = some (.cells respZero 44)) (v0 v1 v2 v3 v4 v5 v6 v7 v8 v9 v10 v11 v12 : Value) :
    (((((((((((((w.setCell ⟨R, 0, none⟩ v0).setCell ⟨R, 1, none⟩ v1).setCell ⟨R, 2, none⟩ v2).setCell ⟨R, 3, none⟩ v3).setCell ⟨R, 4, none⟩ v4).setCell ⟨R, 5, none⟩ v5).setCell ⟨R, 6, none⟩ v6).setCell ⟨R, 7, none⟩ v7).setCell ⟨R, 8, none⟩ v8).setCell ⟨R, 9, none⟩ v9).setCell ⟨R, 10, none⟩ v10).setCell ⟨R, 11, none⟩ v11).setCell ⟨R, 12, none⟩ v12).heap[R]? = some (.cells #[v0, v1, v2, v3, v4, v5, v6, v7, v8, v9, v10, v11, v12] 44) := by
  have h0 : (w.setCell ⟨R, 0, none⟩ v0).heap[R]? = some (.cells #[v0, .string ⟨#[]⟩, .string ⟨#[]⟩, .string ⟨#[]⟩, .slice none 0 0, .string ⟨#[]⟩, .string ⟨#[]⟩, .int .i64 0, .int .i64 0, .int .i64 0, .int .i64 0, .int .i64 0, .int .i64 0] 44) := by rw [heap_setCell_same _ R 0 _ 44 _ h]; rfl
  have h1 : ((w.setCell ⟨R, 0, none⟩ v0).setCell ⟨R, 1, none⟩ v1).heap[R]? = some (.cells #[v0, v1, .string ⟨#[]⟩, .string ⟨#[]⟩, .slice none 0 0, .string ⟨#[]⟩, .string ⟨#[]⟩, .int .i64 0, .int .i64 0, .int .i64 0, .int .i64 0, .int .i64 0, .int .i64 0] 44) := by rw [heap_setCell_same _ R 1 _ 44 _ h0]; rfl
  have h2 : (((w.setCell ⟨R, 0, none⟩ v0).setCell ⟨R, 1, none⟩ v1).setCell ⟨R, 2, none⟩ v2).heap[R]? = some (.cells #[v0, v1, v2, .string ⟨#[]⟩, .slice none 0 0, .string ⟨#[]⟩, .string ⟨#[]⟩, .int .i64 0, .int .i64 0, .int .i64 0, .int .i64 0, .int .i64 0, .int .i64 0] 44) := by rw [heap_setCell_same _ R 2 _ 44 _ h1]; rfl
  have h3 : ((((w.setCell ⟨R, 0, none⟩ v0).setCell ⟨R, 1, none⟩ v1).setCell ⟨R, 2, none⟩ v2).setCell ⟨R, 3, none⟩ v3).heap[R]? = some (.cells #[v0, v1, v2, v3, .slice none 0 0, .string ⟨#[]⟩, .string ⟨#[]⟩, .int .i64 0, .int .i64 0, .int .i64 0, .int .i64 0, .int .i64 0, .int .i64 0] 44) := by rw [heap_setCell_same _ R 3 _ 44 _ h2]; rfl
  have h4 : (((((w.setCell ⟨R, 0, none⟩ v0).setCell ⟨R, 1, none⟩ v1).setCell ⟨R, 2, none⟩ v2).setCell ⟨R, 3, none⟩ v3).setCell ⟨R, 4, none⟩ v4).heap[R]? = some (.cells #[v0, v1, v2, v3, v4, .string ⟨#[]⟩, .string ⟨#[]⟩, .int .i64 0, .int .i64 0, .int .i64 0, .int .i64 0, .int .i64 0, .int .i64 0] 44) := by rw [heap_setCell_same _ R 4 _ 44 _ h3]; rfl
  have h5 : ((((((w.setCell ⟨R, 0, none⟩ v0).setCell ⟨R, 1, none⟩ v1).setCell ⟨R, 2, none⟩ v2).setCell ⟨R, 3, none⟩ v3).setCell ⟨R, 4, none⟩ v4).setCell ⟨R, 5, none⟩ v5).heap[R]? = some (.cells #[v0, v1, v2, v3, v4, v5, .string ⟨#[]⟩, .int .i64 0, .int .i64 0, .int .i64 0, .int .i64 0, .int .i64 0, .int .i64 0] 44) := by rw [heap_setCell_same _ R 5 _ 44 _ h4]; rfl
  have h6 : (((((((w.setCell ⟨R, 0, none⟩ v0).setCell ⟨R, 1, none⟩ v1).setCell ⟨R, 2, none⟩ v2).setCell ⟨R, 3, none⟩ v3).setCell ⟨R, 4, none⟩ v4).setCell ⟨R, 5, none⟩ v5).setCell ⟨R, 6, none⟩ v6).heap[R]? = some (.cells #[v0, v1, v2, v3, v4, v5, v6, .int .i64 0, .int .i64 0, .int .i64 0, .int .i64 0, .int .i64 0, .int .i64 0] 44) := by rw [heap_setCell_same _ R 6 _ 44 _ h5]; rfl
  have h7 : ((((((((w.setCell ⟨R, 0, none⟩ v0).setCell ⟨R, 1, none⟩ v1).setCell ⟨R, 2, none⟩ v2).setCell ⟨R, 3, none⟩ v3).setCell ⟨R, 4, none⟩ v4).setCell ⟨R, 5, none⟩ v5).setCell ⟨R, 6, none⟩ v6).setCell ⟨R, 7, none⟩ v7).heap[R]? = some (.cells #[v0, v1, v2, v3, v4, v5, v6, v7, .int .i64 0, .int .i64 0, .int .i64 0, .int .i64 0, .int .i64 0] 44) := by rw [heap_setCell_same _ R 7 _ 44 _ h6]; rfl
  have h8 : (((((((((w.setCell ⟨R, 0, none⟩ v0).setCell ⟨R, 1, none⟩ v1).setCell ⟨R, 2, none⟩ v2).setCell ⟨R, 3, none⟩ v3).setCell ⟨R, 4, none⟩ v4).setCell ⟨R, 5, none⟩ v5).setCell ⟨R, 6, none⟩ v6).setCell ⟨R, 7, none⟩ v7).setCell ⟨R, 8, none⟩ v8).heap[R]? = some (.cells #[v0, v1, v2, v3, v4, v5, v6, v7, v8, .int .i64 0, .int .i64 0, .int .i64 0, .int .i64 0] 44) := by rw [heap_setCell_same _ R 8 _ 44 _ h7]; rfl
  have h9 : ((((((((((w.setCell ⟨R, 0, none⟩ v0).setCell ⟨R, 1, none⟩ v1).setCell ⟨R, 2, none⟩ v2).setCell ⟨R, 3, none⟩ v3).setCell ⟨R, 4, none⟩ v4).setCell ⟨R, 5, none⟩ v5).setCell ⟨R, 6, none⟩ v6).setCell ⟨R, 7, none⟩ v7).setCell ⟨R, 8, none⟩ v8).setCell ⟨R, 9, none⟩ v9).heap[R]? = some (.cells #[v0, v1, v2, v3, v4, v5, v6, v7, v8, v9, .int .i64 0, .int .i64 0, .int .i64 0] 44) := by rw [heap_setCell_same _ R 9 _ 44 _ h8]; rfl
  have h10 : (((((((((((w.setCell ⟨R, 0, none⟩ v0).setCell ⟨R, 1, none⟩ v1).setCell ⟨R, 2, none⟩ v2).setCell ⟨R, 3, none⟩ v3).setCell ⟨R, 4, none⟩ v4).setCell ⟨R, 5, none⟩ v5).setCell ⟨R, 6, none⟩ v6).setCell ⟨R, 7, none⟩ v7).setCell ⟨R, 8, none⟩ v8).setCell ⟨R, 9, none⟩ v9).setCell ⟨R, 10, none⟩ v10).heap[R]? = some (.cells #[v0, v1, v2, v3, v4, v5, v6, v7, v8, v9, v10, .int .i64 0, .int .i64 0] 44) := by rw [heap_setCell_same _ R 10 _ 44 _ h9]; rfl
  have h11 : ((((((((((((w.setCell ⟨R, 0, none⟩ v0).setCell ⟨R, 1, none⟩ v1).setCell ⟨R, 2, none⟩ v2).setCell ⟨R, 3, none⟩ v3).setCell ⟨R, 4, none⟩ v4).setCell ⟨R, 5, none⟩ v5).setCell ⟨R, 6, none⟩ v6).setCell ⟨R, 7, none⟩ v7).setCell ⟨R, 8, none⟩ v8).setCell ⟨R, 9, none⟩ v9).setCell ⟨R, 10, none⟩ v10).setCell ⟨R, 11, none⟩ v11).heap[R]? = some (.cells #[v0, v1, v2, v3, v4, v5, v6, v7, v8, v9, v10, v11, .int .i64 0] 44) := by rw [heap_setCell_same _ R 11 _ 44 _ h10]; rfl
  have h12 : (((((((((((((w.setCell ⟨R, 0, none⟩ v0).setCell ⟨R, 1, none⟩ v1).setCell ⟨R, 2, none⟩ v2).setCell ⟨R, 3, none⟩ v3).setCell ⟨R, 4, none⟩ v4).setCell ⟨R, 5, none⟩ v5).setCell ⟨R, 6, none⟩ v6).setCell ⟨R, 7, none⟩ v7).setCell ⟨R, 8, none⟩ v8).setCell ⟨R, 9, none⟩ v9).setCell ⟨R, 10, none⟩ v10).setCell ⟨R, 11, none⟩ v11).setCell ⟨R, 12, none⟩ v12).heap[R]? = some (.cells #[v0, v1, v2, v3, v4, v5, v6, v7, v8, v9, v10, v11, v12] 44) := by rw [heap_setCell_same _ R 12 _ 44 _ h11]; rfl
  exact h12

theorem resp_other (w : World) (R k : Nat) (hk : k ≠ R) (v0 v1 v2 v3 v4 v5 v6 v7 v8 v9 v10 v11 v12 : Value) : (((((((((((((w.setCell ⟨R, 0, none⟩ v0).setCell ⟨R, 1, none⟩ v1).setCell ⟨R, 2, none⟩ v2).setCell ⟨R, 3, none⟩ v3).setCell ⟨R, 4, none⟩ v4).setCell ⟨R, 5, none⟩ v5).setCell ⟨R, 6, none⟩ v6).setCell ⟨R, 7, none⟩ v7).setCell ⟨R, 8, none⟩ v8).setCell ⟨R, 9, none⟩ v9).setCell ⟨R, 10, none⟩ v10).setCell ⟨R, 11, none⟩ v11).setCell ⟨R, 12, none⟩ v12).heap[k]? = w.heap[k]? := by
  rw [heap_setCell_other _ _ _ _ hk, heap_setCell_other _ _ _ _ hk, heap_setCell_other _ _ _ _ hk, heap_setCell_other _ _ _ _ hk, heap_setCell_other _ _ _ _ hk, heap_setCell_other _ _ _ _ hk, heap_setCell_other _ _ _ _ hk, heap_setCell_other _ _ _ _ hk, heap_setCell_other _ _ _ _ hk, heap_setCell_other _ _ _ _ hk, heap_setCell_other _ _ _ _ hk, heap_setCell_other _ _ _ _ hk, heap_setCell_other _ _ _ _ hk]

theorem setCell_os (w : World) (a : Addr) (v : Value) : (w.setCell a v).os = w.os := rfl
theorem setCell_tape (w : World) (a : Addr) (v : Value) : (w.setCell a v).tape = w.tape := rfl
theorem setCell_output (w : World) (a : Addr) (v : Value) : (w.setCell a v).output = w.output := rfl
theorem resp_os (w : World) (R : Nat) (v0 v1 v2 v3 v4 v5 v6 v7 v8 v9 v10 v11 v12 : Value) : (((((((((((((w.setCell ⟨R, 0, none⟩ v0).setCell ⟨R, 1, none⟩ v1).setCell ⟨R, 2, none⟩ v2).setCell ⟨R, 3, none⟩ v3).setCell ⟨R, 4, none⟩ v4).setCell ⟨R, 5, none⟩ v5).setCell ⟨R, 6, none⟩ v6).setCell ⟨R, 7, none⟩ v7).setCell ⟨R, 8, none⟩ v8).setCell ⟨R, 9, none⟩ v9).setCell ⟨R, 10, none⟩ v10).setCell ⟨R, 11, none⟩ v11).setCell ⟨R, 12, none⟩ v12).os = w.os ∧ (((((((((((((w.setCell ⟨R, 0, none⟩ v0).setCell ⟨R, 1, none⟩ v1).setCell ⟨R, 2, none⟩ v2).setCell ⟨R, 3, none⟩ v3).setCell ⟨R, 4, none⟩ v4).setCell ⟨R, 5, none⟩ v5).setCell ⟨R, 6, none⟩ v6).setCell ⟨R, 7, none⟩ v7).setCell ⟨R, 8, none⟩ v8).setCell ⟨R, 9, none⟩ v9).setCell ⟨R, 10, none⟩ v10).setCell ⟨R, 11, none⟩ v11).setCell ⟨R, 12, none⟩ v12).tape = w.tape ∧ (((((((((((((w.setCell ⟨R, 0, none⟩ v0).setCell ⟨R, 1, none⟩ v1).setCell ⟨R, 2, none⟩ v2).setCell ⟨R, 3, none⟩ v3).setCell ⟨R, 4, none⟩ v4).setCell ⟨R, 5, none⟩ v5).setCell ⟨R, 6, none⟩ v6).setCell ⟨R, 7, none⟩ v7).setCell ⟨R, 8, none⟩ v8).setCell ⟨R, 9, none⟩ v9).setCell ⟨R, 10, none⟩ v10).setCell ⟨R, 11, none⟩ v11).setCell ⟨R, 12, none⟩ v12).output = w.output := by
  simp only [setCell_os, setCell_tape, setCell_output, and_self]

theorem resp_size (w : World) (R : Nat) (v0 v1 v2 v3 v4 v5 v6 v7 v8 v9 v10 v11 v12 : Value) : (((((((((((((w.setCell ⟨R, 0, none⟩ v0).setCell ⟨R, 1, none⟩ v1).setCell ⟨R, 2, none⟩ v2).setCell ⟨R, 3, none⟩ v3).setCell ⟨R, 4, none⟩ v4).setCell ⟨R, 5, none⟩ v5).setCell ⟨R, 6, none⟩ v6).setCell ⟨R, 7, none⟩ v7).setCell ⟨R, 8, none⟩ v8).setCell ⟨R, 9, none⟩ v9).setCell ⟨R, 10, none⟩ v10).setCell ⟨R, 11, none⟩ v11).setCell ⟨R, 12, none⟩ v12).heap.size = w.heap.size := by simp

/-- while response goes over the calls -/
structure RespRel (B A : Nat) (mo fi : ByteArray) (s : St) (ph : Phys) (w : World) (Z : Array Value) (k : Nat) (v : Value) (wr : World) : Prop where
  holds : Holds B A mo fi s ph wr
  row : wr.ownsRow (w.heap.size + 1) 52 3 v k (tcRows (s.calls.take k))
  some_ : ∃ g cap, v = .slice (some ⟨g, 0, none⟩) k cap
  res : wr.heap[w.heap.size]? = some (.cells Z 44)
  below : Below w.heap.size w wr

/-- a Response read out of its variable -/
theorem read_resp (W : World) (R : Nat) (v0 v1 v2 v3 v4 v5 v6 v7 v8 v9 v10 v11 v12 : Value) (h : W.heap[R]? = some (.cells #[v0, v1, v2, v3, v4, v5, v6, v7, v8, v9, v10, v11, v12] 44)) (tmps : Array Value)
    (ha : tmps.getD 2 undef = .pointer (some ⟨R, 0, none⟩)) : (results Try.f39 tmps).run Try.prog W = .ok (.agg #[v0, v1, v2, v3, v4, v5, v6, v7, v8, v9, v10, v11, v12]) W := by
  have hc : ∀ j, W.cell? ⟨R, j, none⟩ = (#[v0, v1, v2, v3, v4, v5, v6, v7, v8, v9, v10, v11, v12] : Array Value)[j]? := fun j => by simp [World.cell?, h]
  have ha' : tmps[2]?.getD undef = .pointer (some ⟨R, 0, none⟩) := by simpa using ha
  simp [results, Try.results39, ha', go_sem, hc]

theorem resp_end {B A : Nat} {mo fi : ByteArray} {s : St} {ph : Phys} {w wr X : World} {g2 cap2 : Nat} (hR : RespRel B A mo fi s ph w respZero s.calls.length (.slice (some ⟨g2, 0, none⟩) s.calls.length cap2) wr)
    (hXh : X.heap = wr.heap) (hXo : X.os = wr.os ∧ X.tape = wr.tape ∧ X.output = wr.output) (a : Act) (ha : a.tmps.getD 2 undef = .pointer (some ⟨w.heap.size, 0, none⟩)) (hd : a.defers = []) :
    bodyPost Try.prog Try.f39 (RespPost mo fi s w) .ret a (((((((((((((X.setCell ⟨w.heap.size, 0, none⟩ (.string mo)).setCell ⟨w.heap.size, 1, none⟩ (.string ⟨#[]⟩)).setCell ⟨w.heap.size, 2, none⟩ (.string ⟨#[]⟩)).setCell ⟨w.heap.size, 3, none⟩ (.string ⟨#[]⟩)).setCell ⟨w.heap.size, 4, none⟩ (.slice (some ⟨g2, 0, none⟩) s.calls.length cap2)).setCell ⟨w.heap.size, 5, none⟩ (.string (finF fi s.calls.length))).setCell ⟨w.heap.size, 6, none⟩ (.string fi)).setCell ⟨w.heap.size, 7, none⟩ (.int .i64 0)).setCell ⟨w.heap.size, 8, none⟩ (.int .i64 0)).setCell ⟨w.heap.size, 9, none⟩ (.int .i64 0)).setCell ⟨w.heap.size, 10, none⟩ (.int .i64 0)).setCell ⟨w.heap.size, 11, none⟩ (.int .i64 0)).setCell ⟨w.heap.size, 12, none⟩ (.int .i64 0)) := by
  have hXr : X.heap[w.heap.size]? = some (.cells respZero 44) := by rw [hXh]; exact hR.res
  have hWb := resp_store X w.heap.size hXr (.string mo) (.string ⟨#[]⟩) (.string ⟨#[]⟩) (.string ⟨#[]⟩) (.slice (some ⟨g2, 0, none⟩) s.calls.length cap2) (.string (finF fi s.calls.length)) (.string fi) (.int .i64 0) (.int .i64 0) (.int .i64 0) (.int .i64 0) (.int .i64 0) (.int .i64 0)
  have hWo := fun k hk => resp_other X w.heap.size k hk (.string mo) (.string ⟨#[]⟩) (.string ⟨#[]⟩) (.string ⟨#[]⟩) (.slice (some ⟨g2, 0, none⟩) s.calls.length cap2) (.string (finF fi s.calls.length)) (.string fi) (.int .i64 0) (.int .i64 0) (.int .i64 0) (.int .i64 0) (.int .i64 0) (.int .i64 0)
  have hWs := resp_size X w.heap.size (.string mo) (.string ⟨#[]⟩) (.string ⟨#[]⟩) (.string ⟨#[]⟩) (.slice (some ⟨g2, 0, none⟩) s.calls.length cap2) (.string (finF fi s.calls.length)) (.string fi) (.int .i64 0) (.int .i64 0) (.int .i64 0) (.int .i64 0) (.int .i64 0) (.int .i64 0)
  refine bodyPost_ret (v := .agg (respCells mo fi g2 s.calls.length cap2)) (read_resp _ _ _ _ _ _ _ _ _ _ _ _ _ _ _ hWb _ ha) hd ⟨g2, cap2, rfl, ?_, ?_⟩
  · have hrow := hR.row
    rw [List.take_length] at hrow
    have h1 := ownsRow_same hrow (w' := (((((((((((((X.setCell ⟨w.heap.size, 0, none⟩ (.string mo)).setCell ⟨w.heap.size, 1, none⟩ (.string ⟨#[]⟩)).setCell ⟨w.heap.size, 2, none⟩ (.string ⟨#[]⟩)).setCell ⟨w.heap.size, 3, none⟩ (.string ⟨#[]⟩)).setCell ⟨w.heap.size, 4, none⟩ (.slice (some ⟨g2, 0, none⟩) s.calls.length cap2)).setCell ⟨w.heap.size, 5, none⟩ (.string (finF fi s.calls.length))).setCell ⟨w.heap.size, 6, none⟩ (.string fi)).setCell ⟨w.heap.size, 7, none⟩ (.int .i64 0)).setCell ⟨w.heap.size, 8, none⟩ (.int .i64 0)).setCell ⟨w.heap.size, 9, none⟩ (.int .i64 0)).setCell ⟨w.heap.size, 10, none⟩ (.int .i64 0)).setCell ⟨w.heap.size, 11, none⟩ (.int .i64 0)).setCell ⟨w.heap.size, 12, none⟩ (.int .i64 0))) (fun k hk => by
      rw [hWo k (by have := (hrow.lt k hk).1; omega), hXh])
    obtain ⟨h2, h3⟩ := h1
    refine ⟨h2, ?_⟩
    rcases h3 with h3 | ⟨g, cap, cur, e, hb, rest⟩
    · exact .inl h3
    · exact .inr ⟨g, cap, cur, e, by omega, rest⟩
  · have hos := resp_os X w.heap.size (.string mo) (.string ⟨#[]⟩) (.string ⟨#[]⟩) (.string ⟨#[]⟩) (.slice (some ⟨g2, 0, none⟩) s.calls.length cap2) (.string (finF fi s.calls.length)) (.string fi) (.int .i64 0) (.int .i64 0) (.int .i64 0) (.int .i64 0) (.int .i64 0) (.int .i64 0)
    refine hR.below.trans ⟨hos.1.trans hXo.1, hos.2.1.trans hXo.2.1, hos.2.2.trans hXo.2.2, by rw [hWs, hXh]; exact Nat.le_refl _, fun k hk => by rw [hWo k (by omega), hXh]⟩

set_option maxRecDepth 100000 in
set_option maxHeartbeats 20000000 in
theorem response_any {B A : Nat} {mo fi : ByteArray} {s : St} {ph : Phys} {w : World} (h : Holds B A mo fi s ph w) (hn : s.calls.length ≤ 100000) :
    Calls Try.prog 39 #[.pointer (some ⟨A, 0, none⟩)] w (RespPost mo fi s w) := by
  have hA := (h.labs _ _ h.labA).2
  have c8 : w.cell? ⟨A, 8, none⟩ = some ph.cv := by simp [World.cell?, h.asm]
  obtain ⟨i0, z, hi0, hz0, hzs, hzb, hzc⟩ := info52
  obtain ⟨ROW, hRs, hmk⟩ : ∃ ROW : Array Value, ROW.size = s.calls.length * 3 ∧ ∀ w, (Instr.makeSlice 39 (.int .i64 0) (.int .i64 (s.calls.length : Int))).run Try.prog w = .ok (.slice (some ⟨w.heap.size, 0, none⟩) 0 s.calls.length) (w.alloc (.cells ROW 52)) := by
    refine ⟨madeCells z.cells (s.calls.length * i0.size), by rw [size_madeCells, hzs], fun w => ?_⟩
    have := run_make (P := Try.prog) w 39 52 i0 z Try.underlying39 hi0 hz0 .i64 .i64 0 s.calls.length (by omega) (by omega) (by rw [hzb]; omega) (by omega)
    simpa using this
  obtain ⟨cvA, cvc, hcv⟩ : ∃ a c, ph.cv = .slice a s.calls.length c := by
    rcases h.row.2 with ⟨h1, h2⟩ | ⟨g, cap, cur, h1, _⟩
    · exact ⟨none, 0, by rw [h1, h2]⟩
    · exact ⟨_, _, h1⟩
  rw [hcv] at c8
  have hRel0 : RespRel B A mo fi s ph w respZero 0 (.slice (some ⟨w.heap.size + 1, 0, none⟩) 0 s.calls.length) ((w.alloc (.cells respZero 44)).alloc (.cells ROW 52)) := by
    refine ⟨(h.alloc _).alloc _, ?_, ⟨_, _, rfl⟩, ?_, ((Below.refl _ _).alloc (Nat.le_refl _) _).alloc (by simp) _⟩
    · have := World.ownsRow_made (base := w.heap.size + 1) (e := 52) (size := 3) (w.alloc (.cells respZero 44)) ROW s.calls.length (by simp) (by unfold maxLen; omega) hRs
      simpa [tcRows] using this
    · rw [Below.heap_alloc _ _ _ (by simp)]; exact heap_alloc_new w _
  have HCV := hide1 hcv
  clear hcv
  go_enter Try.func39, Try.ntmps39
  go_wp2
  go_loopw [3, 19] (fun v i wr => ∃ k : Nat, k ≤ s.calls.length ∧ i = .int .i64 k ∧ RespRel B A mo fi s ph w respZero k v wr) (fun _ i _ => s.calls.length - (intOf i).toNat)
  case atStart => exact ⟨0, Nat.zero_le _, rfl, hRel0⟩
  case round =>
    clear hRel0 c8 hA
    obtain ⟨k, hk, rfl, hR⟩ := hrel
    by_cases hlt : k < s.calls.length
    · obtain ⟨p, hp⟩ : ∃ p, s.calls[k]? = some p := ⟨_, List.getElem?_eq_getElem hlt⟩
      have hpm := List.mem_of_getElem? hp
      obtain ⟨g, rfl, hcell⟩ : ∃ g, cvA = some ⟨g, 0, none⟩ ∧ wr.cell? ⟨g, k, none⟩ = some p.ptr := by
        rcases hR.holds.row.2 with ⟨h1, h2⟩ | ⟨g, cap, cur, h1, _⟩
        · omega
        · have hc := hR.holds.row.cells (g := g) (by rw [h1]; rfl) k p.ptr (by rw [List.getElem?_map, hp]; rfl)
          rw [Addr.add_lit, Nat.zero_add] at hc
          have e := HCV.out
          rw [h1] at e
          simp only [Value.slice.injEq] at e
          exact ⟨g, e.1.symm, hc⟩
      have p1 : wr.cell? ⟨p.blk, 1, none⟩ = some (.string p.id) := by simp [World.cell?, hR.holds.call p hpm]
      have p2 : wr.cell? ⟨p.blk, 2, none⟩ = some (.string p.name) := by simp [World.cell?, hR.holds.call p hpm]
      have p3 : wr.cell? ⟨p.blk, 3, none⟩ = some (ph.av p.blk) := by simp [World.cell?, hR.holds.call p hpm]
      have hc := run_bytes_str (hR.holds.args p hpm)
      obtain ⟨aa, am, ac, hv⟩ := ownsRow_slice (hR.holds.args p hpm)
      rw [hv] at p3 hc
      have hsn := tcRows_snoc s.calls k p hp
      have hpl := (hR.holds.labs _ _ (hR.holds.labCall p hpm)).2
      obtain ⟨ar, har⟩ : ∃ ar, ar = argOut p.args := ⟨_, rfl⟩
      have hbs : w.heap.size + 1 ≤ wr.heap.size := by
        have := (Array.getElem?_eq_some_iff.1 hR.res).1
        omega
      obtain ⟨g2, cap2, rfl⟩ := hR.some_
      obtain ⟨v', W, hrun, ho, hg, hfr⟩ := run_append_src (P := Try.prog) (wr.alloc (.cells #[.string p.id, .string p.name, .string ar] 52)).drew (w.heap.size + 1) 39 39 39 52 i0 z 3 48 Try.underlying39 hi0 hz0 hzs hzb hzc _ k (tcRows (s.calls.take k))
        (hR.row.alloc _) (.slice (some ⟨wr.heap.size, 0, none⟩) 1 1) 1 [.string p.id, .string p.name, .string ar]
        (Src.ofSlice _ Try.underlying39 ⟨wr.heap.size, 0, none⟩ 1 1 [.string p.id, .string p.name, .string ar] rfl (fun j u hj => by
          rw [Addr.add_lit, Nat.zero_add, World.cell?_drew, World.cell?_alloc_new]
          simpa using hj) (by simp; exact ⟨rfl, rfl, rfl⟩)) (by unfold maxLen; omega) (by omega) (by simp; omega)
      have hb2 : g2 ≠ w.heap.size := by have := (hR.row.lt g2 rfl).1; omega
      have keep : ∀ j, j < wr.heap.size → j ≠ g2 → W.heap[j]? = wr.heap[j]? := fun j hj hne => by
        rw [hg.block j (by simp; omega) (by simpa [Value.ownBlock] using hne)]
        exact Below.heap_alloc wr _ j hj
      have hnl : ∀ l, ph.lab g2 ≠ some l := fun l e => by have := (h.labs _ _ e).2; have := (hR.row.lt g2 rfl).1; omega
      have hNext : RespRel B A mo fi s ph w respZero (k + 1) v' W := by
        refine ⟨hR.holds.frame (Nat.le_trans (by simp) hg.size) (fun j l hj => keep j (hR.holds.labs j l hj).2 (fun e => hnl l (e ▸ hj))), ?_, ?_, ?_, ?_⟩
        · rw [hsn]
          have e : tcCells p = [.string p.id, .string p.name, .string ar] := by rw [har]; rfl
          rw [e]; exact ho
        · rcases ho.2 with ⟨_, h0⟩ | ⟨g3, cap3, _, e3, _⟩
          · omega
          · exact ⟨g3, cap3, e3⟩
        · rw [keep _ (by omega) (by omega)]; exact hR.res
        · exact hR.below.trans ⟨hg.os, hg.tape, hg.output, Nat.le_trans (by simp) hg.size, fun j hj => keep j (by omega) (by have := (hR.row.lt g2 rfl).1; omega)⟩
      have HN := hide1 hNext
      clear hNext keep hg ho hfr hsn
      by_cases he : emp p.args = true
      · have e1 : ar = sBraces := by rw [har]; unfold argOut; rw [if_pos he]
        rw [e1] at hrun
        have he' : p.args.toList.isEmpty = true := he
        clear he e1 har
        go_wp2_with fail
        go_region_law (refine step_append_run rfl _ _ 39 39 rfl _ _ (by simp [Act.eval]) (by simp [Act.eval]) hrun ?_)
        all_goals
          go_wp2_with fail
          go_roundw
          case rel => exact ⟨k + 1, by omega, by go_num, HN.out⟩
          case measure => simp [intOf]; omega
      · have e1 : ar = p.args := by rw [har]; unfold argOut; rw [if_neg he]
        rw [e1] at hrun
        have he' := emp_false he
        clear he e1 har
        go_wp2_with fail
        go_region_law (refine step_append_run rfl _ _ 39 39 rfl _ _ (by simp [Act.eval]) (by simp [Act.eval]) hrun ?_)
        all_goals
          go_wp2_with fail
          go_roundw
          case rel => exact ⟨k + 1, by omega, by go_num, HN.out⟩
          case measure => simp [intOf]; omega
    · obtain rfl : k = s.calls.length := by omega
      have c0 : wr.cell? ⟨A, 0, none⟩ = some (.string mo) := by simp [World.cell?, hR.holds.asm]
      have c1 : wr.cell? ⟨A, 1, none⟩ = some (.string fi) := by simp [World.cell?, hR.holds.asm]
      obtain ⟨g2, cap2, rfl⟩ := hR.some_
      have hAR : w.heap.size ≠ A := by have := (h.labs _ _ h.labA).2; omega
      have c3 : wr.cell? ⟨A, 3, none⟩ = some (.slice none 0 0) := by simp [World.cell?, hR.holds.asm]
      have c5 : wr.cell? ⟨A, 5, none⟩ = some (.slice none 0 0) := by simp [World.cell?, hR.holds.asm]
      have c7 : wr.cell? ⟨A, 7, none⟩ = some (.slice none 0 0) := by simp [World.cell?, hR.holds.asm]
      have c11 : wr.cell? ⟨A, 11, none⟩ = some (.int .i64 0) := by simp [World.cell?, hR.holds.asm]
      have c12 : wr.cell? ⟨A, 12, none⟩ = some (.int .i64 0) := by simp [World.cell?, hR.holds.asm]
      have c13 : wr.cell? ⟨A, 13, none⟩ = some (.int .i64 0) := by simp [World.cell?, hR.holds.asm]
      have c14 : wr.cell? ⟨A, 14, none⟩ = some (.int .i64 0) := by simp [World.cell?, hR.holds.asm]
      have c15 : wr.cell? ⟨A, 15, none⟩ = some (.int .i64 0) := by simp [World.cell?, hR.holds.asm]
      have c16 : wr.cell? ⟨A, 16, none⟩ = some (.int .i64 0) := by simp [World.cell?, hR.holds.asm]
      have r0 : wr.cell? ⟨w.heap.size, 0, none⟩ = some (.string ⟨#[]⟩) := by simp [World.cell?, hR.res]
      have z0 : wr.frozen? ⟨w.heap.size, 0, none⟩ = false := by simp [World.frozen?, hR.res]
      have r1 : wr.cell? ⟨w.heap.size, 1, none⟩ = some (.string ⟨#[]⟩) := by simp [World.cell?, hR.res]
      have z1 : wr.frozen? ⟨w.heap.size, 1, none⟩ = false := by simp [World.frozen?, hR.res]
      have r2 : wr.cell? ⟨w.heap.size, 2, none⟩ = some (.string ⟨#[]⟩) := by simp [World.cell?, hR.res]
      have z2 : wr.frozen? ⟨w.heap.size, 2, none⟩ = false := by simp [World.frozen?, hR.res]
      have r3 : wr.cell? ⟨w.heap.size, 3, none⟩ = some (.string ⟨#[]⟩) := by simp [World.cell?, hR.res]
      have z3 : wr.frozen? ⟨w.heap.size, 3, none⟩ = false := by simp [World.frozen?, hR.res]
      have r4 : wr.cell? ⟨w.heap.size, 4, none⟩ = some (.slice none 0 0) := by simp [World.cell?, hR.res]
      have z4 : wr.frozen? ⟨w.heap.size, 4, none⟩ = false := by simp [World.frozen?, hR.res]
      have r5 : wr.cell? ⟨w.heap.size, 5, none⟩ = some (.string ⟨#[]⟩) := by simp [World.cell?, hR.res]
      have z5 : wr.frozen? ⟨w.heap.size, 5, none⟩ = false := by simp [World.frozen?, hR.res]
      have r6 : wr.cell? ⟨w.heap.size, 6, none⟩ = some (.string ⟨#[]⟩) := by simp [World.cell?, hR.res]
      have z6 : wr.frozen? ⟨w.heap.size, 6, none⟩ = false := by simp [World.frozen?, hR.res]
      have r7 : wr.cell? ⟨w.heap.size, 7, none⟩ = some (.int .i64 0) := by simp [World.cell?, hR.res]
      have z7 : wr.frozen? ⟨w.heap.size, 7, none⟩ = false := by simp [World.frozen?, hR.res]
      have r8 : wr.cell? ⟨w.heap.size, 8, none⟩ = some (.int .i64 0) := by simp [World.cell?, hR.res]
      have z8 : wr.frozen? ⟨w.heap.size, 8, none⟩ = false := by simp [World.frozen?, hR.res]
      have r9 : wr.cell? ⟨w.heap.size, 9, none⟩ = some (.int .i64 0) := by simp [World.cell?, hR.res]
      have z9 : wr.frozen? ⟨w.heap.size, 9, none⟩ = false := by simp [World.frozen?, hR.res]
      have r10 : wr.cell? ⟨w.heap.size, 10, none⟩ = some (.int .i64 0) := by simp [World.cell?, hR.res]
      have z10 : wr.frozen? ⟨w.heap.size, 10, none⟩ = false := by simp [World.frozen?, hR.res]
      have r11 : wr.cell? ⟨w.heap.size, 11, none⟩ = some (.int .i64 0) := by simp [World.cell?, hR.res]
      have z11 : wr.frozen? ⟨w.heap.size, 11, none⟩ = false := by simp [World.frozen?, hR.res]
      have r12 : wr.cell? ⟨w.heap.size, 12, none⟩ = some (.int .i64 0) := by simp [World.cell?, hR.res]
      have z12 : wr.frozen? ⟨w.heap.size, 12, none⟩ = false := by simp [World.frozen?, hR.res]
      have HR := hide1 hR
      clear hR
      go_upto_region 11 with (go_at_call 33; refine (normalize_any _ _).mono ?_; rintro e w' ⟨rfl, hw⟩; obtain rfl := hw.symm; clear hw)
      go_cut [55] (fun v w' => v = .bool (turns fi s.calls.length) ∧ wr = w')
      case first =>
        by_cases hc1 : (normF fi).toList = [115, 116, 111, 112]
        · by_cases hc2 : 0 < s.calls.length
          · go_wp2_with fail
            go_meet
            case rel => exact ⟨by rw [turns_yes hc1 hc2], rfl⟩
          · have hc2' : decide (0 < s.calls.length) = false := decide_eq_false hc2
            go_wp2_with fail
            go_meet
            case rel => exact ⟨by rw [turns_no (.inr hc2)], rfl⟩
        · have hc1' : ((normF fi).toList == [115, 116, 111, 112]) = false := by simpa using hc1
          go_wp2_with fail
          go_meet
          case rel => exact ⟨by rw [turns_no (.inl hc1)], rfl⟩
      case rest =>
      obtain ⟨rfl, hw⟩ := hcut
      subst hw
      go_upto_if 55 with fail
      go_cut [7] (fun v w' => v = .string (finF fi s.calls.length) ∧ wr = w')
      case first =>
        cases hc : turns fi s.calls.length with
        | true =>
          have HC := hide1 hc
          clear hc
          go_wp2_with fail
          go_meet
          case rel => exact ⟨by unfold finF; rw [HC.out]; rfl, rfl⟩
        | false =>
          have HC := hide1 hc
          clear hc
          go_wp2_with fail
          go_meet
          case rel => exact ⟨by unfold finF; rw [HC.out]; rfl, rfl⟩
      case rest =>
      obtain ⟨rfl, hw⟩ := hcut
      subst hw
      go_wp2_with fail
      go_region_held3 (fun w' => w'.cell? ⟨A, 0, none⟩ = some (.string mo) ∧ w'.cell? ⟨A, 1, none⟩ = some (.string fi) ∧ w'.cell? ⟨A, 3, none⟩ = some (.slice none 0 0) ∧ w'.cell? ⟨A, 5, none⟩ = some (.slice none 0 0) ∧ w'.cell? ⟨A, 7, none⟩ = some (.slice none 0 0) ∧ w'.cell? ⟨A, 11, none⟩ = some (.int .i64 0) ∧ w'.cell? ⟨A, 12, none⟩ = some (.int .i64 0) ∧ w'.cell? ⟨A, 13, none⟩ = some (.int .i64 0) ∧ w'.cell? ⟨A, 14, none⟩ = some (.int .i64 0) ∧ w'.cell? ⟨A, 15, none⟩ = some (.int .i64 0) ∧ w'.cell? ⟨A, 16, none⟩ = some (.int .i64 0)) (simp [*, cell_blk]) (first | (go_at_call 41; refine (bstring_any A _ _ ?_).mono ?_; (simp [*]); rintro e w' ⟨rfl, n, rfl⟩))
      go_wp2_with fail
      refine resp_end HR.out ?_ ?_ _ ?_ ?_
      · rfl
      · exact ⟨rfl, rfl, rfl⟩
      · rfl
      · rfl

/-- the thirteen cells of a Response that is still zero -/
theorem resp_cells {w : World} {R : Nat} (h : w.heap[R]? = some (.cells respZero 44)) : w.cell? ⟨R, 0, none⟩ = some (.string ⟨#[]⟩) ∧ w.frozen? ⟨R, 0, none⟩ = false ∧ w.cell? ⟨R, 1, none⟩ = some (.string ⟨#[]⟩) ∧ w.frozen? ⟨R, 1, none⟩ = false ∧ w.cell? ⟨R, 2, none⟩ = some (.string ⟨#[]⟩) ∧ w.frozen? ⟨R, 2, none⟩ = false ∧ w.cell? ⟨R, 3, none⟩ = some (.string ⟨#[]⟩) ∧ w.frozen? ⟨R, 3, none⟩ = false ∧ w.cell? ⟨R, 4, none⟩ = some (.slice none 0 0) ∧ w.frozen? ⟨R, 4, none⟩ = false ∧ w.cell? ⟨R, 5, none⟩ = some (.string ⟨#[]⟩) ∧ w.frozen? ⟨R, 5, none⟩ = false ∧ w.cell? ⟨R, 6, none⟩ = some (.string ⟨#[]⟩) ∧ w.frozen? ⟨R, 6, none⟩ = false ∧ w.cell? ⟨R, 7, none⟩ = some (.int .i64 0) ∧ w.frozen? ⟨R, 7, none⟩ = false ∧ w.cell? ⟨R, 8, none⟩ = some (.int .i64 0) ∧ w.frozen? ⟨R, 8, none⟩ = false ∧ w.cell? ⟨R, 9, none⟩ = some (.int .i64 0) ∧ w.frozen? ⟨R, 9, none⟩ = false ∧ w.cell? ⟨R, 10, none⟩ = some (.int .i64 0) ∧ w.frozen? ⟨R, 10, none⟩ = false ∧ w.cell? ⟨R, 11, none⟩ = some (.int .i64 0) ∧ w.frozen? ⟨R, 11, none⟩ = false ∧ w.cell? ⟨R, 12, none⟩ = some (.int .i64 0) ∧ w.frozen? ⟨R, 12, none⟩ = false := by
  simp [World.cell?, World.frozen?, h]

theorem read_resp16 (W : World) (R : Nat) (v0 v1 v2 v3 v4 v5 v6 v7 v8 v9 v10 v11 v12 : Value) (h : W.heap[R]? = some (.cells #[v0, v1, v2, v3, v4, v5, v6, v7, v8, v9, v10, v11, v12] 44)) (tmps : Array Value)
    (ha : tmps.getD 2 undef = .pointer (some ⟨R, 0, none⟩)) : (results Try.f16 tmps).run Try.prog W = .ok (.agg #[v0, v1, v2, v3, v4, v5, v6, v7, v8, v9, v10, v11, v12]) W := by
  have hc : ∀ j, W.cell? ⟨R, j, none⟩ = (#[v0, v1, v2, v3, v4, v5, v6, v7, v8, v9, v10, v11, v12] : Array Value)[j]? := fun j => by simp [World.cell?, h]
  have ha' : tmps[2]?.getD undef = .pointer (some ⟨R, 0, none⟩) := by simpa using ha
  simp [results, Try.results16, ha', go_sem, hc]

theorem resp_end16 {mo fi : ByteArray} {s : St} {w X : World} {g2 cap2 : Nat} (hXr : X.heap[w.heap.size]? = some (.cells respZero 44)) (hrow : X.ownsRow (w.heap.size + 1) 52 3 (.slice (some ⟨g2, 0, none⟩) s.calls.length cap2) s.calls.length (tcRows s.calls))
    (hb : Below w.heap.size w X) (a : Act) (ha : a.tmps.getD 2 undef = .pointer (some ⟨w.heap.size, 0, none⟩)) (hd : a.defers = []) :
    bodyPost Try.prog Try.f16 (RespPost mo fi s w) .ret a (((((((((((((X.setCell ⟨w.heap.size, 0, none⟩ (.string mo)).setCell ⟨w.heap.size, 1, none⟩ (.string ⟨#[]⟩)).setCell ⟨w.heap.size, 2, none⟩ (.string ⟨#[]⟩)).setCell ⟨w.heap.size, 3, none⟩ (.string ⟨#[]⟩)).setCell ⟨w.heap.size, 4, none⟩ (.slice (some ⟨g2, 0, none⟩) s.calls.length cap2)).setCell ⟨w.heap.size, 5, none⟩ (.string (finF fi s.calls.length))).setCell ⟨w.heap.size, 6, none⟩ (.string fi)).setCell ⟨w.heap.size, 7, none⟩ (.int .i64 0)).setCell ⟨w.heap.size, 8, none⟩ (.int .i64 0)).setCell ⟨w.heap.size, 9, none⟩ (.int .i64 0)).setCell ⟨w.heap.size, 10, none⟩ (.int .i64 0)).setCell ⟨w.heap.size, 11, none⟩ (.int .i64 0)).setCell ⟨w.heap.size, 12, none⟩ (.int .i64 0)) := by
  have hWb := resp_store X w.heap.size hXr (.string mo) (.string ⟨#[]⟩) (.string ⟨#[]⟩) (.string ⟨#[]⟩) (.slice (some ⟨g2, 0, none⟩) s.calls.length cap2) (.string (finF fi s.calls.length)) (.string fi) (.int .i64 0) (.int .i64 0) (.int .i64 0) (.int .i64 0) (.int .i64 0) (.int .i64 0)
  have hWo := fun k hk => resp_other X w.heap.size k hk (.string mo) (.string ⟨#[]⟩) (.string ⟨#[]⟩) (.string ⟨#[]⟩) (.slice (some ⟨g2, 0, none⟩) s.calls.length cap2) (.string (finF fi s.calls.length)) (.string fi) (.int .i64 0) (.int .i64 0) (.int .i64 0) (.int .i64 0) (.int .i64 0) (.int .i64 0)
  have hWs := resp_size X w.heap.size (.string mo) (.string ⟨#[]⟩) (.string ⟨#[]⟩) (.string ⟨#[]⟩) (.slice (some ⟨g2, 0, none⟩) s.calls.length cap2) (.string (finF fi s.calls.length)) (.string fi) (.int .i64 0) (.int .i64 0) (.int .i64 0) (.int .i64 0) (.int .i64 0) (.int .i64 0)
  have hos := resp_os X w.heap.size (.string mo) (.string ⟨#[]⟩) (.string ⟨#[]⟩) (.string ⟨#[]⟩) (.slice (some ⟨g2, 0, none⟩) s.calls.length cap2) (.string (finF fi s.calls.length)) (.string fi) (.int .i64 0) (.int .i64 0) (.int .i64 0) (.int .i64 0) (.int .i64 0) (.int .i64 0)
  refine bodyPost_ret (v := .agg (respCells mo fi g2 s.calls.length cap2)) (read_resp16 _ _ _ _ _ _ _ _ _ _ _ _ _ _ _ hWb _ ha) hd ⟨g2, cap2, rfl, ?_, ?_⟩
  · have h1 := ownsRow_same hrow (w' := (((((((((((((X.setCell ⟨w.heap.size, 0, none⟩ (.string mo)).setCell ⟨w.heap.size, 1, none⟩ (.string ⟨#[]⟩)).setCell ⟨w.heap.size, 2, none⟩ (.string ⟨#[]⟩)).setCell ⟨w.heap.size, 3, none⟩ (.string ⟨#[]⟩)).setCell ⟨w.heap.size, 4, none⟩ (.slice (some ⟨g2, 0, none⟩) s.calls.length cap2)).setCell ⟨w.heap.size, 5, none⟩ (.string (finF fi s.calls.length))).setCell ⟨w.heap.size, 6, none⟩ (.string fi)).setCell ⟨w.heap.size, 7, none⟩ (.int .i64 0)).setCell ⟨w.heap.size, 8, none⟩ (.int .i64 0)).setCell ⟨w.heap.size, 9, none⟩ (.int .i64 0)).setCell ⟨w.heap.size, 10, none⟩ (.int .i64 0)).setCell ⟨w.heap.size, 11, none⟩ (.int .i64 0)).setCell ⟨w.heap.size, 12, none⟩ (.int .i64 0))) (fun k hk => hWo k (by have := (hrow.lt k hk).1; omega))
    obtain ⟨h2, h3⟩ := h1
    refine ⟨h2, ?_⟩
    rcases h3 with h3 | ⟨g, cap, cur, e, hb, rest⟩
    · exact .inl h3
    · exact .inr ⟨g, cap, cur, e, by omega, rest⟩
  · exact hb.trans ⟨hos.1, hos.2.1, hos.2.2, by rw [hWs]; exact Nat.le_refl _, fun k hk => hWo k (by omega)⟩

set_option maxRecDepth 100000 in
set_option maxHeartbeats 4000000 in
theorem zzResponse_any {B A : Nat} {mo fi : ByteArray} {s : St} {ph : Phys} {w : World} (h : Holds B A mo fi s ph w) (hn : s.calls.length ≤ 100000) :
    Calls Try.prog 16 #[.pointer (some ⟨A, 0, none⟩)] w (RespPost mo fi s w) := by
  have hresp := response_any (h.alloc (.cells respZero 44)) hn
  have key : ∀ w2 g cap, w2.ownsRow (w.alloc (.cells respZero 44)).heap.size 52 3 (.slice (some ⟨g, 0, none⟩) s.calls.length cap) s.calls.length (tcRows s.calls) → Below (w.alloc (.cells respZero 44)).heap.size (w.alloc (.cells respZero 44)) w2 →
      w2.heap[w.heap.size]? = some (.cells respZero 44) ∧ w2.ownsRow (w.heap.size + 1) 52 3 (.slice (some ⟨g, 0, none⟩) s.calls.length cap) s.calls.length (tcRows s.calls) ∧ Below w.heap.size w w2 := fun w2 g cap h1 h2 => by
    have hs : (w.alloc (.cells respZero 44)).heap.size = w.heap.size + 1 := by simp
    rw [hs] at h1 h2
    exact ⟨(h2.block _ (by omega)).trans (heap_alloc_new w _), h1, ((Below.refl _ w).alloc (Nat.le_refl _) _).trans (h2.mono (by omega))⟩
  go_enter Try.func16, Try.ntmps16
  go_wp2_with (go_at_call 39; refine hresp.mono ?_; rintro e w2 ⟨g, cap, rfl, h1, h2⟩; obtain ⟨k1, k2, k3⟩ := key w2 g cap h1 h2; have HX := hide3 k1 k2 k3; obtain ⟨r0, z0, r1, z1, r2, z2, r3, z3, r4, z4, r5, z5, r6, z6, r7, z7, r8, z8, r9, z9, r10, z10, r11, z11, r12, z12⟩ := resp_cells k1; clear h1 h2 k1 k2 k3)
  obtain ⟨k1, k2, k3⟩ := HX.out
  refine resp_end16 k1 k2 k3 _ ?_ ?_
  · rfl
  · rfl

end Go.Proofs.Qxb6600954a
