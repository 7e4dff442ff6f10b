/-
  Seat b6600954a: the shim's accessors (ZZ..B1) over the state; toFragmentB1, ZZNewAssemblyB1, ZZAddToolCallB1, cloneFragsB1.
-/
import Derived.Test.Qxb6600954aAdd
namespace Go.Proofs.Qxb6600954a
open Go.RowKit

theorem foldl_push_bytes : ∀ (l : List UInt8) (s : ByteArray), ((l.map fun b => (b.toNat : Int)).foldl (fun r n => r.push (UInt8.ofNat n.toNat)) s) = s ++ ⟨l.toArray⟩
  | [], s => by
    apply ByteArray.ext
    simp
  | b :: l, s => by
    rw [List.map_cons, List.foldl_cons, foldl_push_bytes l]
    apply ByteArray.ext
    simp [ByteArray.push]

theorem run_bytes_str {w : World} {B : Nat} {v : Value} {s : ByteArray} (h : w.ownsRow B 5 1 v s.size (byteCells s)) : (convert 48 9 v).run Try.prog w = .ok (.string s) w := by
  rcases h.2 with ⟨rfl, h0⟩ | ⟨g, cap, cur, hv, _, hg, hn, _, hcs, htake⟩
  · rw [run_convert_bytes_string w 48 9 5 none 0 0 Try.underlying48 Try.underlying5 Try.underlying9]
    have : s = ByteArray.empty := by
      apply ByteArray.ext
      exact Array.eq_empty_of_size_eq_zero h0
    rw [this]
    rfl
  · subst hv
    rw [run_convert_bytes_string w 48 9 5 _ _ _ Try.underlying48 Try.underlying5 Try.underlying9]
    have hl := run_loadCells_list (P := Try.prog) w ⟨g, 0, none⟩ (byteCells s) (h.cells rfl)
    rw [byteCells_length] at hl
    have hm : byteCells s = (s.data.toList.map fun b => (b.toNat : Int)).map (Value.int .u8) := by simp [byteCells]
    rw [hm] at hl
    rw [run_bytesToString w ⟨g, 0, none⟩ s.size cap _ hl, foldl_push_bytes]
    congr 2

section
variable {B A : Nat} {mo fi : ByteArray} {s : St} {ph : Phys} {w : World}

set_option maxHeartbeats 400000 in
theorem numCalls_any (h : Holds B A mo fi s ph w) : Calls Try.prog 21 #[.pointer (some ⟨A, 0, none⟩)] w fun e w' => e = .returned (.int .i64 s.calls.length) ∧ w' = w := by
  have c8 : w.cell? ⟨A, 8, none⟩ = some ph.cv := by simp [World.cell?, h.asm]
  rcases h.row.2 with ⟨h1, h2⟩ | ⟨g, cap, cur, h1, _⟩
  · rw [h1] at c8
    rw [h2]
    clear h1 h2
    go_enter Try.func21, Try.ntmps21
    go_wp2
    go_ret
    exact ⟨rfl, rfl⟩
  · rw [h1] at c8
    clear h1
    go_enter Try.func21, Try.ntmps21
    go_wp2
    go_ret
    exact ⟨rfl, rfl⟩

set_option maxHeartbeats 400000 in
theorem latest_any (h : Holds B A mo fi s ph w) : Calls Try.prog 22 #[.pointer (some ⟨A, 0, none⟩)] w fun e w' => e = .returned (.pointer (latPtr s.latest)) ∧ w' = w := by
  have c8 : w.cell? ⟨A, 10, none⟩ = some (.pointer (latPtr s.latest)) := by simp [World.cell?, h.asm]
  go_enter Try.func22, Try.ntmps22
  go_wp2
  go_ret
  exact ⟨rfl, rfl⟩

set_option maxHeartbeats 400000 in
theorem call_any (h : Holds B A mo fi s ph w) (i : Nat) (p : Call) (hp : s.calls[i]? = some p) : Calls Try.prog 27 #[.pointer (some ⟨A, 0, none⟩), .int .i64 i] w fun e w' => e = .returned p.ptr ∧ w' = w := by
  have c8 : w.cell? ⟨A, 8, none⟩ = some ph.cv := by simp [World.cell?, h.asm]
  have hi : i < s.calls.length := (List.getElem?_eq_some_iff.1 hp).1
  rcases h.row.2 with ⟨h1, h2⟩ | ⟨g, cap, cur, h1, _⟩
  · omega
  · have hc := h.row.cells (g := g) (by rw [h1]; rfl) i p.ptr (by rw [List.getElem?_map, hp]; rfl)
    rw [Addr.add_lit, Nat.zero_add] at hc
    rw [h1] at c8
    clear h1 hp
    go_enter Try.func27, Try.ntmps27
    go_wp2
    go_ret
    exact ⟨rfl, rfl⟩

set_option maxHeartbeats 400000 in
theorem callIndex_any (h : Holds B A mo fi s ph w) (p : Call) (hp : p ∈ s.calls) : Calls Try.prog 26 #[p.ptr] w fun e w' => e = .returned (.int .i64 p.index) ∧ w' = w := by
  have c0 : w.cell? ⟨p.blk, 0, none⟩ = some (.int .i64 p.index) := by simp [World.cell?, h.call p hp]
  go_enter Try.func26, Try.ntmps26
  go_wp2
  go_ret
  exact ⟨rfl, rfl⟩

set_option maxHeartbeats 400000 in
theorem callId_any (h : Holds B A mo fi s ph w) (p : Call) (hp : p ∈ s.calls) : Calls Try.prog 28 #[p.ptr] w fun e w' => e = .returned (.string p.id) ∧ w' = w := by
  have c0 : w.cell? ⟨p.blk, 1, none⟩ = some (.string p.id) := by simp [World.cell?, h.call p hp]
  go_enter Try.func28, Try.ntmps28
  go_wp2
  go_ret
  exact ⟨rfl, rfl⟩

set_option maxHeartbeats 400000 in
theorem callName_any (h : Holds B A mo fi s ph w) (p : Call) (hp : p ∈ s.calls) : Calls Try.prog 29 #[p.ptr] w fun e w' => e = .returned (.string p.name) ∧ w' = w := by
  have c0 : w.cell? ⟨p.blk, 2, none⟩ = some (.string p.name) := by simp [World.cell?, h.call p hp]
  go_enter Try.func29, Try.ntmps29
  go_wp2
  go_ret
  exact ⟨rfl, rfl⟩

set_option maxHeartbeats 400000 in
theorem callArgs_any (h : Holds B A mo fi s ph w) (p : Call) (hp : p ∈ s.calls) : Calls Try.prog 30 #[p.ptr] w fun e w' => e = .returned (.string p.args) ∧ w' = w := by
  have c0 : w.cell? ⟨p.blk, 3, none⟩ = some (ph.av p.blk) := by simp [World.cell?, h.call p hp]
  have hc := run_bytes_str (h.args p hp)
  obtain ⟨a, m, c, hv⟩ := ownsRow_slice (h.args p hp)
  rw [hv] at c0 hc
  clear hv
  go_enter Try.func30, Try.ntmps30
  go_wp2
  go_ret
  exact ⟨rfl, rfl⟩

end

set_option maxHeartbeats 400000 in
theorem newAssembly_any (mo fi : ByteArray) (w : World) : Calls Try.prog 12 #[.string mo, .string fi] w fun e w' =>
    e = .returned (.pointer (some ⟨w.heap.size, 0, none⟩)) ∧ w' = w.alloc (.cells (asmCells mo fi (.slice none 0 0) none none) 79) := by
  go_enter Try.func12, Try.ntmps12
  go_wp2
  go_ret
  exact ⟨rfl, rfl⟩

set_option maxHeartbeats 400000 in
theorem toFragment_any (f : Frag) (w : World) : Calls Try.prog 14 #[.agg f.cells] w fun e w' =>
    e = .returned (.agg f.cells) ∧ w' = (w.alloc (.cells f.cells 36)).alloc (.cells f.cells 34) := by
  go_enter Try.func14, Try.ntmps14
  go_wp2
  exact bodyPost_ret (v := .agg f.cells) (by simp [results, Try.results14, go_sem]) rfl ⟨rfl, rfl⟩


theorem hide4 {p q r t : Prop} (h : p) (h' : q) (h'' : r) (h3 : t) : Hid (p ∧ q ∧ r ∧ t) := ⟨h, h', h'', h3⟩

set_option maxRecDepth 100000 in
set_option maxHeartbeats 400000 in
theorem zzAdd_any {B A : Nat} {mo fi : ByteArray} {s : St} {ph : Phys} {w : World} (h : Holds B A mo fi s ph w) (hnm : NmOk ph.nm s) (hs : Sorted s.calls) (hn : s.calls.length ≤ 100000) (f : Frag) (hsz : ∀ q ∈ s.calls, q.args.size + f.args.size ≤ 1000000000) (hfz : f.args.size ≤ 1000000000) :
    Calls Try.prog 13 #[.pointer (some ⟨A, 0, none⟩), .agg f.cells] w (AddPost B A mo fi s f ph w) := by
  have hadd := add_any (h.alloc (.cells f.cells 34)) hnm hs hn f hsz hfz
  go_enter Try.func13, Try.ntmps13
  go_wp2_with (go_at_call 38; refine hadd.mono ?_; rintro e w' ⟨N, ph', rfl, h1, h2, h3, h4⟩; have HX := hide4 h1 h2 h3 h4; clear h1 h2 h3 h4)
  go_end0
  obtain ⟨h1, h2, h3, h4⟩ := HX.out
  exact ⟨N, ph', rfl, by simp at h1; omega, h2, h3, (Grows.alloc _ _ _).trans h4⟩

set_option maxRecDepth 100000 in
set_option maxHeartbeats 400000 in
theorem zzAt_any {B A : Nat} {mo fi : ByteArray} {s : St} {ph : Phys} {w : World} (h : Holds B A mo fi s ph w) (hs : Sorted s.calls) (hn : s.calls.length ≤ 100000) (f : Frag) :
    Calls Try.prog 25 #[.pointer (some ⟨A, 0, none⟩), .agg f.cells] w (AtPost B A mo fi s f ph w) := by
  have hat := at_any (h.alloc (.cells f.cells 34)) hs hn f
  go_enter Try.func25, Try.ntmps25
  go_wp2_with (go_at_call 40; refine hat.mono ?_; rintro e w' ⟨N, ph', rfl, h1, h2, h3, h4⟩; have HX := hide4 h1 h2 h3 h4; clear h1 h2 h3 h4)
  go_ret
  obtain ⟨h1, h2, h3, h4⟩ := HX.out
  exact ⟨N, ph', rfl, by simp at h1; omega, h2, (Grows.alloc _ _ _).trans h3, h4⟩

/-! ### cloneFragsB1 -/

def ClonePost (fs : List Frag) (w : World) (e : Ending) (w' : World) : Prop :=
  ∃ a' c', e = .returned (.slice a' fs.length c') ∧ (fs = [] ∨ ∃ b, a' = some ⟨b, 0, none⟩ ∧ w.heap.size ≤ b ∧ b < w'.heap.size ∧ FragRow w' b 0 fs) ∧ Below w.heap.size w w'

theorem info36 : ∃ i z, Try.prog.info? 36 = some i ∧ i.zero = some z ∧ i.size = 5 ∧ i.bytes = 64 := by
  have h : (Try.prog.info? 36).map (fun i => (i.zero.isSome, i.size, i.bytes)) = some (true, 5, 64) := by kernel_rfl
  obtain ⟨i, hi, he⟩ := Option.map_eq_some_iff.1 h
  simp only [Prod.mk.injEq] at he
  obtain ⟨z, hz⟩ := Option.isSome_iff_exists.1 he.1
  exact ⟨i, z, hi, hz, he.2.1, he.2.2⟩

/-- the first k fragments lie in the row -/
def RowOf (arr : Array Value) (fs : List Frag) (k : Nat) : Prop :=
  ∀ j f, fs[j]? = some f → j < k → arr[j * 5]? = some (.int .i64 f.index) ∧ arr[j * 5 + 1]? = some (.bool f.has) ∧ arr[j * 5 + 2]? = some (.string f.id) ∧ arr[j * 5 + 3]? = some (.string f.name) ∧ arr[j * 5 + 4]? = some (.string f.args)

theorem row_step {arr : Array Value} {fs : List Frag} {k : Nat} {f : Frag} (hf : fs[k]? = some f) (hs : k * 5 + 5 ≤ arr.size) (h : RowOf arr fs k) :
    RowOf (((((arr.setIfInBounds (k * 5) (.int .i64 f.index)).setIfInBounds (k * 5 + 1) (.bool f.has)).setIfInBounds (k * 5 + 2) (.string f.id)).setIfInBounds (k * 5 + 3) (.string f.name)).setIfInBounds (k * 5 + 4) (.string f.args)) fs (k + 1) := by
  intro j g hg hj
  by_cases e : j = k
  · subst e
    rw [hf] at hg
    cases hg
    simp only [Array.getElem?_setIfInBounds, Array.size_setIfInBounds]
    refine ⟨?_, ?_, ?_, ?_, ?_⟩ <;> (simp; omega)
  · obtain ⟨a0, a1, a2, a3, a4⟩ := h j g hg (by omega)
    simp only [Array.getElem?_setIfInBounds, Array.size_setIfInBounds]
    refine ⟨?_, ?_, ?_, ?_, ?_⟩
    · rw [if_neg (by omega), if_neg (by omega), if_neg (by omega), if_neg (by omega), if_neg (by omega)]; exact a0
    · rw [if_neg (by omega), if_neg (by omega), if_neg (by omega), if_neg (by omega), if_neg (by omega)]; exact a1
    · rw [if_neg (by omega), if_neg (by omega), if_neg (by omega), if_neg (by omega), if_neg (by omega)]; exact a2
    · rw [if_neg (by omega), if_neg (by omega), if_neg (by omega), if_neg (by omega), if_neg (by omega)]; exact a3
    · rw [if_neg (by omega), if_neg (by omega), if_neg (by omega), if_neg (by omega), if_neg (by omega)]; exact a4

theorem row_cell {w : World} {N i : Nat} {arr : Array Value} (h : w.heap[N]? = some (.cells arr 36)) (hi : i < arr.size) : ∃ v, w.cell? ⟨N, i, none⟩ = some v := ⟨arr[i], by simp [World.cell?, h, hi]⟩
theorem row_free {w : World} {N : Nat} {arr : Array Value} (h : w.heap[N]? = some (.cells arr 36)) (i : Nat) : w.frozen? ⟨N, i, none⟩ = false := by simp [World.frozen?, h]

def CloneRel (fs : List Frag) (w : World) (k : Nat) (wr : World) : Prop :=
  ∃ arr, wr.heap[w.heap.size]? = some (.cells arr 36) ∧ arr.size = fs.length * 5 ∧ RowOf arr fs k ∧ Below w.heap.size w wr

set_option maxRecDepth 100000 in
set_option maxHeartbeats 1000000 in
theorem clone_any (a : Option Addr) (cap : Nat) (fs : List Frag) (w : World) (hr : IsFrags w a fs) (hl : fs.length ≤ 1000000) :
    Calls Try.prog 11 #[.slice a fs.length cap] w (ClonePost fs w) := by
  have q22 : ∀ (w : World) (a : Option Addr) (n c : Nat), (binOp .eql 22 (.slice a n c) (.slice none 0 0)).run Try.prog w = .ok (.bool a.isNone) w := fun w a n c => Lib.run_eql_slice_nil w _ _ a n c 0 0 Try.underlying22
  cases a with
  | none =>
    rcases hr with rfl | ⟨b, off, h, _⟩
    · go_enter Try.func11, Try.ntmps11
      go_wp2
      go_ret
      exact ⟨none, 0, rfl, .inl rfl, Below.refl _ _⟩
    · cases h
  | some a =>
    obtain ⟨i0, z, hi0, hz0, hzs, hzb⟩ := info36
    obtain ⟨ROW, hRs, hmk⟩ : ∃ ROW : Array Value, ROW.size = fs.length * 5 ∧ ∀ w, (Instr.makeSlice 22 (.int .i64 (fs.length : Int)) (.int .i64 (fs.length : Int))).run Try.prog w = .ok (.slice (some ⟨w.heap.size, 0, none⟩) fs.length fs.length) (w.alloc (.cells ROW 36)) := by
      refine ⟨madeCells z.cells (fs.length * i0.size), by rw [size_madeCells, hzs], fun w => ?_⟩
      have := run_make (P := Try.prog) w 22 36 i0 z Try.underlying22 hi0 hz0 .i64 .i64 fs.length fs.length (by omega) (Int.le_refl _) (by rw [hzb]; omega) (by omega)
      simpa using this
    go_enter Try.func11, Try.ntmps11
    go_wp2
    go_loopw [4] (fun i wr => ∃ k : Nat, k ≤ fs.length ∧ i = .int .i64 k ∧ CloneRel fs w k wr) (fun i _ => fs.length - (intOf i).toNat)
    case atStart => exact ⟨0, Nat.zero_le _, rfl, ROW, heap_alloc_new w _, hRs, fun j f _ h => absurd h (Nat.not_lt_zero _), (Below.refl _ _).alloc (Nat.le_refl _) _⟩
    case round =>
      obtain ⟨k, hk, rfl, arr, ha, has, hrow, hbel⟩ := hrel
      by_cases hlt : k < fs.length
      · obtain ⟨b, off, e, hb, hr2⟩ := hr.at hlt
        cases e
        obtain ⟨f, hf⟩ : ∃ f, fs[k]? = some f := ⟨_, List.getElem?_eq_getElem hlt⟩
        obtain ⟨c0, c1, c2, c3, c4⟩ := hr2 k _ hf
        rw [← hbel.cell (p := ⟨b, _, none⟩) hb] at c0 c1 c2 c3 c4
        have HF := hide4 hf ha hrow hbel
        obtain ⟨v0, d0⟩ := row_cell ha (i := k * 5) (by omega)
        obtain ⟨v1, d1⟩ := row_cell ha (i := k * 5 + 1) (by omega)
        obtain ⟨v2, d2⟩ := row_cell ha (i := k * 5 + 2) (by omega)
        obtain ⟨v3, d3⟩ := row_cell ha (i := k * 5 + 3) (by omega)
        obtain ⟨v4, d4⟩ := row_cell ha (i := k * 5 + 4) (by omega)
        have z0 := row_free ha (k * 5)
        have z1 := row_free ha (k * 5 + 1)
        have z2 := row_free ha (k * 5 + 2)
        have z3 := row_free ha (k * 5 + 3)
        have z4 := row_free ha (k * 5 + 4)
        clear hf ha hrow hbel
        go_wp2
        go_roundw
        case rel =>
          obtain ⟨hf, ha, hrow, hbel⟩ := HF.out
          refine ⟨k + 1, by omega, by go_num, _, heap_setCell_same _ _ _ _ _ _ (heap_setCell_same _ _ _ _ _ _ (heap_setCell_same _ _ _ _ _ _ (heap_setCell_same _ _ _ _ _ _ (heap_setCell_same _ _ _ _ _ _ ha)))), by simpa using has, row_step hf (by omega) hrow, ?_⟩
          exact ((((hbel.setCell (Nat.le_refl _) _).setCell (Nat.le_refl _) _).setCell (Nat.le_refl _) _).setCell (Nat.le_refl _) _).setCell (Nat.le_refl _) _
        case measure => simp [intOf]; omega
      · go_wp2
        go_ret
        obtain rfl : k = fs.length := by omega
        refine ⟨_, _, rfl, .inr ⟨w.heap.size, rfl, Nat.le_refl _, (Array.getElem?_eq_some_iff.1 ha).1, fun j f hj => ?_⟩, hbel⟩
        have := hrow j f hj (List.getElem?_eq_some_iff.1 hj).1
        simpa [World.cell?, ha] using this

end Go.Proofs.Qxb6600954a
