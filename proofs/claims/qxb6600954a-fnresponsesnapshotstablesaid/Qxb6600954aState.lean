/-
  Seat b6600954a: the assembly's state: as plain data (St), and as it lies in memory (Holds), with what each store does to it. Blocks bear labels (a ghost): 0 the assembly, 1 the calls' row, 2 the map of names, 3 a call, 4 + b the arguments of the call at block b.
-/
import Derived.Test.Qxb6600954aLeaf1
import Derived.Test.Qxb6600954aMem
namespace Go.Proofs.Qxb6600954a
open Go.RowKit

structure Call where
  blk : Nat
  index : Int
  id : ByteArray
  name : ByteArray
  args : ByteArray

abbrev Call.ptr (p : Call) : Value := .pointer (some ⟨p.blk, 0, none⟩)

structure St where
  calls : List Call
  latest : Option (Nat × Int)

structure Phys where
  lab : Nat → Option Nat
  cv : Value
  mp : Option Nat
  nm : List (ByteArray × Nat)
  av : Nat → Value

abbrev latPtr (l : Option (Nat × Int)) : Option Addr := l.map fun x => ⟨x.1, 0, none⟩

abbrev asmCells (mo fi : ByteArray) (cv : Value) (mp : Option Nat) (l : Option (Nat × Int)) : Array Value :=
  #[.string mo, .string fi, .pointer none, .slice none 0 0, .pointer none, .slice none 0 0, .pointer none, .slice none 0 0, cv, .map mp, .pointer (latPtr l), .int .i64 0, .int .i64 0, .int .i64 0, .int .i64 0, .int .i64 0, .int .i64 0]

abbrev callCells (p : Call) (a : Value) : Array Value := #[.int .i64 p.index, .string p.id, .string p.name, a]

def entryOf (x : ByteArray × Nat) : Value × Value := (.string x.1, .pointer (some ⟨x.2, 0, none⟩))

/-- the map of names in memory -/
def MapAt (w : World) (lab : Nat → Option Nat) (mp : Option Nat) (nm : List (ByteArray × Nat)) : Prop :=
  match mp with
  | none => nm = []
  | some m => lab m = some 2 ∧ ∃ es clock, w.heap[m]? = some (.map es clock) ∧ es.toList.map (fun e => (e.key, e.val)) = nm.map entryOf

structure Holds (B A : Nat) (mo fi : ByteArray) (s : St) (ph : Phys) (w : World) : Prop where
  asm : w.heap[A]? = some (.cells (asmCells mo fi ph.cv ph.mp s.latest) 79)
  labA : ph.lab A = some 0
  row : w.ownsRow B 57 1 ph.cv s.calls.length (s.calls.map Call.ptr)
  labRow : ∀ k, ph.cv.ownBlock = some k → ph.lab k = some 1
  call : ∀ p ∈ s.calls, w.heap[p.blk]? = some (.cells (callCells p (ph.av p.blk)) 84)
  labCall : ∀ p ∈ s.calls, ph.lab p.blk = some 3
  args : ∀ p ∈ s.calls, w.ownsRow B 5 1 (ph.av p.blk) p.args.size (byteCells p.args)
  labArgs : ∀ p ∈ s.calls, ∀ k, (ph.av p.blk).ownBlock = some k → ph.lab k = some (4 + p.blk)
  names : MapAt w ph.lab ph.mp ph.nm
  nodup : (s.calls.map Call.blk).Nodup
  labs : ∀ k l, ph.lab k = some l → B ≤ k ∧ k < w.heap.size
  latest : ∀ b i, s.latest = some (b, i) → ∃ p ∈ s.calls, p.blk = b ∧ p.index = i

theorem ownsRow_same {w w' : World} {B : Nat} {e : TypeId} {size : Nat} {v : Value} {n : Nat} {xs : List Value} (h : w.ownsRow B e size v n xs) (hk : ∀ k, v.ownBlock = some k → w'.heap[k]? = w.heap[k]?) : w'.ownsRow B e size v n xs := by
  refine ⟨h.1, ?_⟩
  rcases h.2 with hn | ⟨g, cap, cur, rfl, hb, hgg, rest⟩
  · exact .inl hn
  · exact .inr ⟨g, cap, cur, rfl, hb, by rw [hk g rfl]; exact hgg, rest⟩

/-- the labelled blocks are as they were -/
theorem Holds.frame {B A : Nat} {mo fi : ByteArray} {s : St} {ph : Phys} {w w' : World} (h : Holds B A mo fi s ph w) (hsz : w.heap.size ≤ w'.heap.size) (hb : ∀ k l, ph.lab k = some l → w'.heap[k]? = w.heap[k]?) : Holds B A mo fi s ph w' where
  asm := by rw [hb _ _ h.labA]; exact h.asm
  labA := h.labA
  row := ownsRow_same h.row fun k hk => hb _ _ (h.labRow k hk)
  labRow := h.labRow
  call := fun p hp => by rw [hb _ _ (h.labCall p hp)]; exact h.call p hp
  labCall := h.labCall
  args := fun p hp => ownsRow_same (h.args p hp) fun k hk => hb _ _ (h.labArgs p hp k hk)
  labArgs := h.labArgs
  names := by
    have hn := h.names
    unfold MapAt at hn ⊢
    split
    · rename_i e; rw [e] at hn; exact hn
    · rename_i m e
      rw [e] at hn
      obtain ⟨hl, es, clock, h1, h2⟩ := hn
      exact ⟨hl, es, clock, by rw [hb _ _ hl]; exact h1, h2⟩
  nodup := h.nodup
  labs := fun k l hk => ⟨(h.labs k l hk).1, Nat.lt_of_lt_of_le (h.labs k l hk).2 hsz⟩
  latest := h.latest

theorem Holds.drew {B A : Nat} {mo fi : ByteArray} {s : St} {ph : Phys} {w : World} (h : Holds B A mo fi s ph w) : Holds B A mo fi s ph w.drew := h.frame (Nat.le_refl _) fun _ _ _ => rfl

theorem Holds.alloc {B A : Nat} {mo fi : ByteArray} {s : St} {ph : Phys} {w : World} (h : Holds B A mo fi s ph w) (o : Obj) : Holds B A mo fi s ph (w.alloc o) :=
  h.frame (by simp) fun k l hk => Below.heap_alloc _ _ _ (h.labs k l hk).2

/-- a call's fields turned -/
def St.upd (s : St) (b : Nat) (f : Call → Call) : St := { s with calls := s.calls.map fun p => if p.blk = b then f p else p }

theorem upd_mem {s : St} {b : Nat} {f : Call → Call} {q : Call} (h : q ∈ (s.upd b f).calls) : ∃ p ∈ s.calls, q = if p.blk = b then f p else p := by
  simp only [St.upd, List.mem_map] at h
  obtain ⟨p, hp, rfl⟩ := h
  exact ⟨p, hp, rfl⟩

theorem upd_map {α : Type} (s : St) (b : Nat) (f : Call → Call) (g : Call → α) (hg : ∀ p, g (f p) = g p) : (s.upd b f).calls.map g = s.calls.map g := by
  simp only [St.upd, List.map_map]
  refine List.map_congr_left fun p _ => ?_
  simp only [Function.comp]
  split
  · exact hg p
  · rfl

theorem upd_length (s : St) (b : Nat) (f : Call → Call) : (s.upd b f).calls.length = s.calls.length := by simp [St.upd]

/-- One cell of a call is stored: its index cell excepted. -/
theorem Holds.setCall {B A : Nat} {mo fi : ByteArray} {s : St} {ph : Phys} {w : World} (h : Holds B A mo fi s ph w) {p : Call} (hp : p ∈ s.calls) (f : Call → Call) (i : Nat) (u : Value)
    (hblk : ∀ q, (f q).blk = q.blk) (hidx : ∀ q, (f q).index = q.index) (hargs : ∀ q, (f q).args = q.args) (hc : ∀ q ∈ s.calls, q.blk = p.blk → (callCells q (ph.av p.blk)).setIfInBounds i u = callCells (f q) (ph.av p.blk)) :
    Holds B A mo fi (s.upd p.blk f) ph (w.setCell ⟨p.blk, i, none⟩ u) := by
  have other : ∀ k l, ph.lab k = some l → k ≠ p.blk → (w.setCell ⟨p.blk, i, none⟩ u).heap[k]? = w.heap[k]? := fun k l _ hk => heap_setCell_other w ⟨p.blk, i, none⟩ k u hk
  have hl3 := h.labCall p hp
  have ne : ∀ k l, ph.lab k = some l → l ≠ 3 → k ≠ p.blk := fun k l hk hl e => hl (by rw [e, hl3] at hk; cases hk; rfl)
  refine ⟨?_, h.labA, ?_, h.labRow, ?_, ?_, ?_, ?_, ?_, ?_, ?_, ?_⟩
  · rw [other _ _ h.labA (ne _ _ h.labA (by omega))]; exact h.asm
  · rw [upd_length, upd_map s p.blk f Call.ptr (fun q => by simp [Call.ptr, hblk])]
    exact ownsRow_same h.row fun k hk => other _ _ (h.labRow k hk) (ne _ _ (h.labRow k hk) (by omega))
  · intro q hq
    obtain ⟨r, hr, rfl⟩ := upd_mem hq
    split
    · rename_i e
      rw [hblk, e, heap_setCell_same w p.blk i _ 84 u (by rw [← e]; exact h.call r hr), e, hc r hr e]
    · rename_i e
      rw [heap_setCell_other w _ _ _ e]; exact h.call r hr
  · intro q hq
    obtain ⟨r, hr, rfl⟩ := upd_mem hq
    split
    · rw [hblk]; exact h.labCall r hr
    · exact h.labCall r hr
  · intro q hq
    obtain ⟨r, hr, rfl⟩ := upd_mem hq
    have hk : ∀ k, (ph.av r.blk).ownBlock = some k → (w.setCell ⟨p.blk, i, none⟩ u).heap[k]? = w.heap[k]? := fun k hk => other _ _ (h.labArgs r hr k hk) (ne _ _ (h.labArgs r hr k hk) (by omega))
    split
    · rw [hblk, hargs]; exact ownsRow_same (h.args r hr) hk
    · exact ownsRow_same (h.args r hr) hk
  · intro q hq
    obtain ⟨r, hr, rfl⟩ := upd_mem hq
    split
    · rw [hblk]; exact h.labArgs r hr
    · exact h.labArgs r hr
  · have hn := h.names
    unfold MapAt at hn ⊢
    split
    · rename_i e; rw [e] at hn; exact hn
    · rename_i m e
      rw [e] at hn
      obtain ⟨hl, es, clock, h1, h2⟩ := hn
      exact ⟨hl, es, clock, by rw [other _ _ hl (ne _ _ hl (by omega))]; exact h1, h2⟩
  · rw [upd_map s p.blk f Call.blk hblk]; exact h.nodup
  · intro k l hk
    simpa using h.labs k l hk
  · intro b j hb
    obtain ⟨q, hq, e1, e2⟩ := h.latest b j hb
    refine ⟨if q.blk = p.blk then f q else q, List.mem_map.2 ⟨q, hq, rfl⟩, ?_, ?_⟩
    · split
      · rw [hblk]; exact e1
      · exact e1
    · split
      · rw [hidx]; exact e2
      · exact e2

theorem Holds.setId {B A : Nat} {mo fi : ByteArray} {s : St} {ph : Phys} {w : World} (h : Holds B A mo fi s ph w) {p : Call} (hp : p ∈ s.calls) (id : ByteArray) :
    Holds B A mo fi (s.upd p.blk fun q => { q with id := id }) ph (w.setCell ⟨p.blk, 1, none⟩ (.string id)) :=
  h.setCall hp _ 1 _ (fun _ => rfl) (fun _ => rfl) (fun _ => rfl) (fun _ _ _ => rfl)

theorem Holds.setName {B A : Nat} {mo fi : ByteArray} {s : St} {ph : Phys} {w : World} (h : Holds B A mo fi s ph w) {p : Call} (hp : p ∈ s.calls) (nm : ByteArray) :
    Holds B A mo fi (s.upd p.blk fun q => { q with name := nm }) ph (w.setCell ⟨p.blk, 2, none⟩ (.string nm)) :=
  h.setCall hp _ 2 _ (fun _ => rfl) (fun _ => rfl) (fun _ => rfl) (fun _ _ _ => rfl)


/-! ### What is outside the assembly -/

/-- From (ph, w) to (ph', w'): blocks without a label are as they were; the labels of what was there are as they were. -/
structure Grows (ph : Phys) (w : World) (ph' : Phys) (w' : World) : Prop where
  os : w'.os = w.os
  tape : w'.tape = w.tape
  output : w'.output = w.output
  size : w.heap.size ≤ w'.heap.size
  block : ∀ k, k < w.heap.size → ph.lab k = none → w'.heap[k]? = w.heap[k]?
  lab : ∀ k, k < w.heap.size → ph'.lab k = ph.lab k

theorem Grows.refl (ph : Phys) (w : World) : Grows ph w ph w := ⟨rfl, rfl, rfl, Nat.le_refl _, fun _ _ _ => rfl, fun _ _ => rfl⟩

theorem Grows.trans {p q r : Phys} {a b c : World} (h : Grows p a q b) (k : Grows q b r c) : Grows p a r c :=
  ⟨k.os.trans h.os, k.tape.trans h.tape, k.output.trans h.output, Nat.le_trans h.size k.size,
    fun i hi hl => (k.block i (Nat.lt_of_lt_of_le hi h.size) ((h.lab i hi).trans hl)).trans (h.block i hi hl),
    fun i hi => (k.lab i (Nat.lt_of_lt_of_le hi h.size)).trans (h.lab i hi)⟩

theorem Grows.drew (ph : Phys) (w : World) : Grows ph w ph w.drew := ⟨rfl, rfl, rfl, Nat.le_refl _, fun _ _ _ => rfl, fun _ _ => rfl⟩
theorem Grows.alloc (ph : Phys) (w : World) (o : Obj) : Grows ph w ph (w.alloc o) := ⟨rfl, rfl, rfl, by simp, fun k hk _ => Below.heap_alloc _ _ _ hk, fun _ _ => rfl⟩
theorem Grows.setCell (ph : Phys) (w : World) (a : Addr) (u : Value) {l : Nat} (hl : ph.lab a.block = some l) : Grows ph w ph (w.setCell a u) :=
  ⟨rfl, rfl, rfl, by simp, fun k _ hk => heap_setCell_other w a k u (fun e => by rw [e, hl] at hk; cases hk), fun _ _ => rfl⟩

/-- The blocks from B on alone have turned: 'Below'. -/
theorem Grows.below {ph ph' : Phys} {w w' : World} {B : Nat} (h : Grows ph w ph' w') (hB : B ≤ w.heap.size) (hl : ∀ k l, ph.lab k = some l → B ≤ k) : Below B w w' :=
  ⟨h.os, h.tape, h.output, h.size, fun k hk => h.block k (by omega) (by
    cases e : ph.lab k with
    | none => rfl
    | some l => have := hl k l e; omega)⟩

/-! ### The map of names -/

/-- a new label for a new row -/
def setLab (lab : Nat → Option Nat) (N : Nat) (o : Option Nat) (l : Nat) : Nat → Option Nat := fun k => if N ≤ k ∧ o = some k then some l else lab k

theorem setLab_old {lab : Nat → Option Nat} {N : Nat} {o : Option Nat} {l k : Nat} (h : k < N) : setLab lab N o l k = lab k := by
  unfold setLab; rw [if_neg (by omega)]
theorem setLab_new {lab : Nat → Option Nat} {N : Nat} {l k : Nat} (h : N ≤ k) : setLab lab N (some k) l k = some l := by
  unfold setLab; rw [if_pos ⟨h, rfl⟩]
theorem setLab_cases {lab : Nat → Option Nat} {N : Nat} {o : Option Nat} {l k m : Nat} (h : setLab lab N o l k = some m) : (N ≤ k ∧ o = some k ∧ m = l) ∨ lab k = some m := by
  unfold setLab at h
  split at h
  · rename_i hc; exact .inl ⟨hc.1, hc.2, by simpa using h.symm⟩
  · exact .inr h

def Phys.withMap (ph : Phys) (N : Nat) : Phys := { ph with mp := some N, lab := setLab ph.lab N (some N) 2 }

theorem Holds.mkMap {B A : Nat} {mo fi : ByteArray} {s : St} {ph : Phys} {w : World} (h : Holds B A mo fi s ph w) (hm : ph.mp = none) :
    Holds B A mo fi s (ph.withMap w.heap.size) ((w.alloc (.map #[] 0)).setCell ⟨A, 9, none⟩ (.map (some w.heap.size))) ∧
    Grows ph w (ph.withMap w.heap.size) ((w.alloc (.map #[] 0)).setCell ⟨A, 9, none⟩ (.map (some w.heap.size))) := by
  have hA := (h.labs _ _ h.labA).2
  have hAl : (w.alloc (.map #[] 0)).heap[A]? = some (.cells (asmCells mo fi ph.cv ph.mp s.latest) 79) := by rw [Below.heap_alloc _ _ _ hA]; exact h.asm
  have other : ∀ k l, ph.lab k = some l → k ≠ A → ((w.alloc (.map #[] 0)).setCell ⟨A, 9, none⟩ (.map (some w.heap.size))).heap[k]? = w.heap[k]? := fun k l hk hne => by
    rw [heap_setCell_other _ _ _ _ hne, Below.heap_alloc _ _ _ (h.labs k l hk).2]
  have ne : ∀ k l, ph.lab k = some l → l ≠ 0 → k ≠ A := fun k l hk hl e => hl (by rw [e, h.labA] at hk; cases hk; rfl)
  have old : ∀ k l, ph.lab k = some l → (ph.withMap w.heap.size).lab k = some l := fun k l hk => by
    show setLab ph.lab w.heap.size (some w.heap.size) 2 k = some l
    rw [setLab_old (h.labs k l hk).2]; exact hk
  refine ⟨⟨?_, old _ _ h.labA, ?_, fun k hk => old _ _ (h.labRow k hk), ?_, fun p hp => old _ _ (h.labCall p hp), ?_, fun p hp k hk => old _ _ (h.labArgs p hp k hk), ?_, h.nodup, ?_, h.latest⟩, ?_⟩
  · rw [heap_setCell_same _ A 9 _ 79 _ hAl]
    rfl
  · exact ownsRow_same h.row fun k hk => other _ _ (h.labRow k hk) (ne _ _ (h.labRow k hk) (by omega))
  · intro p hp
    rw [other _ _ (h.labCall p hp) (ne _ _ (h.labCall p hp) (by omega))]; exact h.call p hp
  · intro p hp
    exact ownsRow_same (h.args p hp) fun k hk => other _ _ (h.labArgs p hp k hk) (ne _ _ (h.labArgs p hp k hk) (by omega))
  · have hn := h.names
    unfold MapAt at hn
    rw [hm] at hn
    simp only at hn
    unfold MapAt
    show setLab ph.lab w.heap.size (some w.heap.size) 2 w.heap.size = some 2 ∧ ∃ es clock, _ = some (Obj.map es clock) ∧ _ = ph.nm.map entryOf
    refine ⟨setLab_new (Nat.le_refl _), #[], 0, ?_, by rw [hn]; rfl⟩
    rw [heap_setCell_other _ _ _ _ (show w.heap.size ≠ A by omega)]
    exact heap_alloc_new w _
  · intro k l hk
    rcases setLab_cases hk with ⟨h1, h2, _⟩ | hk
    · simp at h2
      subst h2
      exact ⟨by have := (h.labs _ _ h.labA); omega, by simp⟩
    · have := h.labs k l hk
      exact ⟨this.1, by simp; omega⟩
  · refine ⟨rfl, rfl, rfl, by simp, fun k hk hl => ?_, fun k hk => setLab_old hk⟩
    rw [heap_setCell_other _ _ _ _ (fun e => by rw [e, h.labA] at hl; cases hl), Below.heap_alloc _ _ _ hk]

/-- the call that a name leads to, as the map has it -/
def look : List (ByteArray × Nat) → ByteArray → Option Nat
  | [], _ => none
  | x :: nm, id => if x.1 = id then some x.2 else look nm id

theorem findNow_entries (id : ByteArray) : ∀ (es : List MapEntry) (nm : List (ByteArray × Nat)) (i : Nat), es.map (fun e => (e.key, e.val)) = nm.map entryOf →
    ∃ r, Instr.findNow .string (.string id) es i = some r ∧ r.map (·.2) = (look nm id).map fun b => Value.pointer (some ⟨b, 0, none⟩)
  | [], nm, i, h => by
    cases nm with
    | nil => exact ⟨none, rfl, rfl⟩
    | cons => simp at h
  | e :: es, nm, i, h => by
    cases nm with
    | nil => simp at h
    | cons x nm =>
      simp only [List.map_cons, List.cons.injEq, entryOf, Prod.mk.injEq] at h
      obtain ⟨⟨h1, h2⟩, h3⟩ := h
      by_cases hid : x.1 = id
      · subst hid
        have he : (x.1 == x.1) = true := (MapKept.bytes_beq _ _).2 rfl
        refine ⟨some (i, e.val), ?_, ?_⟩
        · simp [Instr.findNow, h1, Instr.sameNow, he]
        · simp [look, h2]
      · obtain ⟨r, hr, hr2⟩ := findNow_entries id es nm (i + 1) h3
        have hne : (id == x.1) = false := by
          cases hb : id == x.1 with
          | false => rfl
          | true => exact absurd ((MapKept.bytes_beq _ _).1 hb).symm hid
        refine ⟨r, ?_, ?_⟩
        · simp [Instr.findNow, h1, Instr.sameNow, hne, hr]
        · rw [hr2]
          simp [look, hid]

end Go.Proofs.Qxb6600954a
