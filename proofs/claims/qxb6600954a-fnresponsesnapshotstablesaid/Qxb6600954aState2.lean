/-
  Seat b6600954a: the map of names: a look-up and a new entry; a call's arguments appended to; a new call laid in.
-/
import Derived.Test.Qxb6600954aState
import Derived.Test.Qxb6600954aCallAt
namespace Go.Proofs.Qxb6600954a
open Go.RowKit

theorem run_checkKey (e : Bool) (id : ByteArray) (w : World) : (Instr.checkKey e 10000 9 (.string id)).run Try.prog w = .ok () w := by
  rw [Instr.checkKey]
  simp [run_underlying Try.underlying9]

theorem run_look {w : World} {lab : Nat → Option Nat} {mp : Option Nat} {nm : List (ByteArray × Nat)} (h : MapAt w lab mp nm) (id : ByteArray) :
    (Instr.lookup 77 (.map mp) (.string id) false).run Try.prog w = .ok (.pointer ((look nm id).map fun b => ⟨b, 0, none⟩)) w := by
  unfold MapAt at h
  cases mp with
  | none =>
    simp only at h
    subst h
    simp [Instr.lookup, run_underlying Try.underlying77, run_checkKey, Instr.findKey, run_underlying Try.underlying9, Instr.findNow, look, Try.zeroValue57]
  | some m =>
    obtain ⟨_, es, clock, hb, he⟩ := h
    obtain ⟨r, hr, hr2⟩ := findNow_entries id es.toList nm 0 he
    cases hl : look nm id with
    | none =>
      rw [hl] at hr2
      simp at hr2
      subst hr2
      simp [Instr.lookup, run_underlying Try.underlying77, MapKept.run_getObj_map hb, run_checkKey, Instr.findKey, run_underlying Try.underlying9, hr, Try.zeroValue57]
    | some b =>
      rw [hl] at hr2
      simp at hr2
      obtain ⟨i, hi⟩ := hr2
      subst hi
      simp [Instr.lookup, run_underlying Try.underlying77, MapKept.run_getObj_map hb, run_checkKey, Instr.findKey, run_underlying Try.underlying9, hr]

def Phys.withName (ph : Phys) (id : ByteArray) (b : Nat) : Phys := { ph with nm := ph.nm ++ [(id, b)] }

theorem Holds.put {B A : Nat} {mo fi : ByteArray} {s : St} {ph : Phys} {w : World} (h : Holds B A mo fi s ph w) {m : Nat} (hm : ph.mp = some m) {id : ByteArray} (hid : look ph.nm id = none) (b : Nat) :
    ∃ W, (Instr.mapUpdate 77 (.map (some m)) (.string id) (.pointer (some ⟨b, 0, none⟩))).run Try.prog w = .ok () W ∧ Holds B A mo fi s (ph.withName id b) W ∧ Grows ph w (ph.withName id b) W ∧ (∀ k, k ≠ m → W.heap[k]? = w.heap[k]?) ∧ W.heap.size = w.heap.size := by
  have hn := h.names
  unfold MapAt at hn
  rw [hm] at hn
  obtain ⟨hl, es, clock, hb, he⟩ := hn
  obtain ⟨r, hr, hr2⟩ := findNow_entries id es.toList ph.nm 0 he
  rw [hid] at hr2
  simp at hr2
  subst hr2
  have hml := (h.labs m 2 hl)
  have hset : ∀ o : Obj, (setObj m o).run Try.prog w = .ok () { w with heap := w.heap.setIfInBounds m o } := fun o => by
    simp only [setObj, Sem.run, hb]
  refine ⟨{ w with heap := w.heap.setIfInBounds m (.map (es.push { key := .string id, val := .pointer (some ⟨b, 0, none⟩), born := clock }) (clock + 1)) }, ?_, ?_, ?_, ?_, ?_⟩
  · simp [Instr.mapUpdate, run_underlying Try.underlying77, MapKept.run_getObj_map hb, run_checkKey, Instr.findKey, run_underlying Try.underlying9, hr, hset]
  · have other : ∀ k l, ph.lab k = some l → l ≠ 2 → (w.heap.setIfInBounds m (.map (es.push { key := .string id, val := .pointer (some ⟨b, 0, none⟩), born := clock }) (clock + 1)))[k]? = w.heap[k]? := fun k l hk hne => by
      rw [Array.getElem?_setIfInBounds_ne (fun e => hne (by rw [← e, hl] at hk; cases hk; rfl))]
    refine ⟨?_, h.labA, ?_, h.labRow, ?_, h.labCall, ?_, h.labArgs, ?_, h.nodup, ?_, h.latest⟩
    · show (w.heap.setIfInBounds m _)[A]? = _
      rw [other _ _ h.labA (by omega)]; exact h.asm
    · exact ownsRow_same h.row fun k hk => other _ _ (h.labRow k hk) (by omega)
    · intro p hp
      show (w.heap.setIfInBounds m _)[p.blk]? = _
      rw [other _ _ (h.labCall p hp) (by omega)]; exact h.call p hp
    · intro p hp
      exact ownsRow_same (h.args p hp) fun k hk => other _ _ (h.labArgs p hp k hk) (by omega)
    · show MapAt _ ph.lab ph.mp (ph.nm ++ [(id, b)])
      rw [hm]
      refine ⟨hl, es.push { key := .string id, val := .pointer (some ⟨b, 0, none⟩), born := clock }, clock + 1, ?_, ?_⟩
      · show (w.heap.setIfInBounds m _)[m]? = _
        rw [Array.getElem?_setIfInBounds_self_of_lt hml.2]
      · simp [he, entryOf]
    · intro k l hk
      have := h.labs k l hk
      exact ⟨this.1, by simpa using this.2⟩
  · refine ⟨rfl, rfl, rfl, by simp, fun k _ hk => ?_, fun _ _ => rfl⟩
    show (w.heap.setIfInBounds m _)[k]? = _
    rw [Array.getElem?_setIfInBounds_ne (fun e => by rw [← e, hl] at hk; cases hk)]
  · intro k hk
    show (w.heap.setIfInBounds m _)[k]? = _
    rw [Array.getElem?_setIfInBounds_ne (fun e => hk e.symm)]
  · simp


/-! ### The arguments of a call -/

def Phys.withArgs (ph : Phys) (N b : Nat) (v : Value) : Phys := { ph with av := fun k => if k = b then v else ph.av k, lab := setLab ph.lab N v.ownBlock (4 + b) }

/-- append has laid the new row 'v' in 'W'; the store of v into the call closes it. -/
theorem Holds.setArgs {B A : Nat} {mo fi : ByteArray} {s : St} {ph : Phys} {w W : World} (h : Holds B A mo fi s ph w) {p : Call} (hp : p ∈ s.calls) (hargs : ∀ q ∈ s.calls, q.blk = p.blk → q.args = p.args) {v : Value} {t : ByteArray}
    (hg : w.grownBy W (ph.av p.blk).ownBlock) (hf : FreshRow w (ph.av p.blk) v) (hown : W.ownsRow B 5 1 v (p.args.size + t.size) (byteCells p.args ++ byteCells t)) :
    Holds B A mo fi (s.upd p.blk fun q => { q with args := q.args ++ t }) (ph.withArgs w.heap.size p.blk v) (W.setCell ⟨p.blk, 3, none⟩ v) ∧ Grows ph w (ph.withArgs w.heap.size p.blk v) (W.setCell ⟨p.blk, 3, none⟩ v) := by
  have hl3 := h.labCall p hp
  have hpl := (h.labs _ _ hl3).2
  have ne : ∀ k l, ph.lab k = some l → l ≠ 3 → k ≠ p.blk := fun k l hk hl e => hl (by rw [e, hl3] at hk; cases hk; rfl)
  have keptW : ∀ k l, ph.lab k = some l → l ≠ 4 + p.blk → W.heap[k]? = w.heap[k]? := fun k l hk hl =>
    hg.block k (h.labs k l hk).2 (fun e => hl (by have := h.labArgs p hp k e.symm; rw [hk] at this; cases this; rfl))
  have other : ∀ k l, ph.lab k = some l → l ≠ 3 → l ≠ 4 + p.blk → (W.setCell ⟨p.blk, 3, none⟩ v).heap[k]? = w.heap[k]? := fun k l hk h1 h2 => by
    rw [heap_setCell_other W ⟨p.blk, 3, none⟩ k v (ne k l hk h1)]; exact keptW k l hk h2
  have old : ∀ k l, ph.lab k = some l → (ph.withArgs w.heap.size p.blk v).lab k = some l := fun k l hk => by
    show setLab ph.lab w.heap.size v.ownBlock (4 + p.blk) k = some l
    rw [setLab_old (h.labs k l hk).2]; exact hk
  have hWp : ∀ q ∈ s.calls, q.blk = p.blk → W.heap[p.blk]? = some (.cells (callCells q (ph.av p.blk)) 84) := fun q hq e => by
    rw [keptW _ _ hl3 (by omega), ← e]; exact h.call q hq
  refine ⟨⟨?_, old _ _ h.labA, ?_, fun k hk => old _ _ (h.labRow k hk), ?_, ?_, ?_, ?_, ?_, ?_, ?_, ?_⟩, ?_⟩
  · rw [other _ _ h.labA (by omega) (by omega)]; exact h.asm
  · rw [upd_length, upd_map s p.blk (fun q => { q with args := q.args ++ t }) Call.ptr (fun q => rfl)]
    exact ownsRow_same h.row fun k hk => other _ _ (h.labRow k hk) (by omega) (by omega)
  · intro q hq
    obtain ⟨r, hr, rfl⟩ := upd_mem hq
    show _ = some (Obj.cells (callCells _ (if _ = p.blk then v else ph.av _)) 84)
    by_cases e : r.blk = p.blk
    · simp only [if_pos e]
      rw [e, heap_setCell_same W p.blk 3 _ 84 v (hWp r hr e)]
      rfl
    · simp only [if_neg e]
      rw [heap_setCell_other W _ _ _ e, keptW _ _ (h.labCall r hr) (by omega)]; exact h.call r hr
  · intro q hq
    obtain ⟨r, hr, rfl⟩ := upd_mem hq
    split
    · exact old _ _ (h.labCall r hr)
    · exact old _ _ (h.labCall r hr)
  · intro q hq
    obtain ⟨r, hr, rfl⟩ := upd_mem hq
    show (W.setCell ⟨p.blk, 3, none⟩ v).ownsRow B 5 1 (if _ = p.blk then v else ph.av _) _ _
    by_cases e : r.blk = p.blk
    · simp only [if_pos e]
      have ha := hargs r hr e
      have hz : (r.args ++ t).size = p.args.size + t.size := by rw [ha, ByteArray.size_append]
      have hb : byteCells (r.args ++ t) = byteCells p.args ++ byteCells t := by rw [ha]; simp [byteCells]
      rw [hz, hb]
      refine ownsRow_same hown fun k hk => heap_setCell_other W ⟨p.blk, 3, none⟩ k v ?_
      rcases hf k hk with hk | hk
      · exact ne _ _ (h.labArgs p hp k hk) (by omega)
      · show k ≠ p.blk
        omega
    · simp only [if_neg e]
      refine ownsRow_same (h.args r hr) fun k hk => other _ _ (h.labArgs r hr k hk) (by omega) (by omega)
  · intro q hq k hk
    obtain ⟨r, hr, rfl⟩ := upd_mem hq
    have hblk : (if r.blk = p.blk then { r with args := r.args ++ t } else r).blk = r.blk := by split <;> rfl
    rw [hblk] at hk ⊢
    have hk' : (if r.blk = p.blk then v else ph.av r.blk).ownBlock = some k := hk
    split at hk'
    · rename_i e
      rcases hf k hk' with hk2 | hk2
      · rw [e]; exact old _ _ (h.labArgs p hp k hk2)
      · show setLab ph.lab w.heap.size v.ownBlock (4 + p.blk) k = _
        rw [hk', e]; exact setLab_new hk2
    · exact old _ _ (h.labArgs r hr k hk')
  · have hn := h.names
    unfold MapAt at hn ⊢
    show match ph.mp with | none => ph.nm = [] | some m => (ph.withArgs w.heap.size p.blk v).lab m = some 2 ∧ ∃ es clock, _ = some (Obj.map es clock) ∧ _ = ph.nm.map entryOf
    split
    · rename_i e; rw [e] at hn; exact hn
    · rename_i m e
      rw [e] at hn
      obtain ⟨hl, es, clock, h1, h2⟩ := hn
      exact ⟨old _ _ hl, es, clock, by rw [other _ _ hl (by omega) (by omega)]; exact h1, h2⟩
  · rw [upd_map s p.blk (fun q => { q with args := q.args ++ t }) Call.blk (fun q => rfl)]; exact h.nodup
  · intro k l hk
    have hsz := hg.size
    rcases setLab_cases hk with ⟨h1, h2, _⟩ | hk
    · have := hown.lt k h2
      exact ⟨this.1, by simpa using this.2⟩
    · have := h.labs k l hk
      exact ⟨this.1, by simp; omega⟩
  · intro b j hb
    obtain ⟨q, hq, e1, e2⟩ := h.latest b j hb
    refine ⟨if q.blk = p.blk then { q with args := q.args ++ t } else q, List.mem_map.2 ⟨q, hq, rfl⟩, ?_, ?_⟩
    · split <;> exact e1
    · split <;> exact e2
  · refine ⟨hg.os, hg.tape, hg.output, by simpa using hg.size, fun k hk hl => ?_, fun k hk => setLab_old hk⟩
    rw [heap_setCell_other W ⟨p.blk, 3, none⟩ k v (fun e => by rw [e, hl3] at hl; cases hl)]
    exact hg.block k hk (fun e => by have := h.labArgs p hp k e.symm; rw [hl] at this; cases this)


/-! ### A new call -/

def freshCall (N : Nat) (idx : Int) : Call := ⟨N, idx, ⟨#[]⟩, ⟨#[]⟩, ⟨#[]⟩⟩
def St.insert (s : St) (k N : Nat) (idx : Int) : St := { calls := s.calls.take k ++ freshCall N idx :: s.calls.drop k, latest := some (N, idx) }
def Phys.withCall (ph : Phys) (N : Nat) (v : Value) : Phys := { ph with cv := v, av := fun k => if k = N + 1 then .slice none 0 0 else ph.av k, lab := setLab (setLab ph.lab (N + 1) (some (N + 1)) 3) (N + 3) v.ownBlock 1 }

theorem mem_insert {s : St} {k N : Nat} {idx : Int} {q : Call} (h : q ∈ (s.insert k N idx).calls) : q = freshCall N idx ∨ q ∈ s.calls := by
  simp only [St.insert, List.mem_append, List.mem_cons] at h
  rcases h with h | h | h
  · exact .inr (List.mem_of_mem_take h)
  · exact .inl h
  · exact .inr (List.mem_of_mem_drop h)

theorem mem_of_insert {s : St} {k N : Nat} {idx : Int} {q : Call} (h : q ∈ s.calls) : q ∈ (s.insert k N idx).calls := by
  simp only [St.insert, List.mem_append, List.mem_cons]
  rw [← List.take_append_drop k s.calls, List.mem_append] at h
  rcases h with h | h
  · exact .inl h
  · exact .inr (.inr h)

theorem Holds.newCall {B A : Nat} {mo fi : ByteArray} {s : St} {ph : Phys} {w w' : World} {e : Ending} (h : Holds B A mo fi s ph w) {f : Frag} {idx : Int} {k : Nat} (hk : k ≤ s.calls.length)
    (hN : NewPost B A f idx k s.calls.length (s.calls.map Call.ptr) ph.cv w e w') :
    ∃ ph', e = .returned (.pointer (some ⟨w.heap.size + 1, 0, none⟩)) ∧ Holds B A mo fi (s.insert k (w.heap.size + 1) idx) ph' w' ∧ Grows ph w ph' w' ∧ ph'.nm = ph.nm := by
  obtain ⟨v, w4, rfl, hown, hg, hf, rfl⟩ := hN
  have hA := h.labs _ _ h.labA
  have hsz := hg.size
  have hsz3 : (world3 w f idx).heap.size = w.heap.size + 3 := by simp [world3]
  rw [hsz3] at hsz
  have h3 : ∀ k, k < w.heap.size → (world3 w f idx).heap[k]? = w.heap[k]? := fun k hk => by
    unfold world3
    rw [Below.heap_alloc _ _ _ (by simp; omega), Below.heap_alloc _ _ _ (by simp; omega), Below.heap_alloc _ _ _ hk]
  have keptW : ∀ k l, ph.lab k = some l → l ≠ 1 → w4.heap[k]? = w.heap[k]? := fun k l hk hl => by
    have hlt := (h.labs k l hk).2
    rw [hg.block k (by omega) (fun e => hl (by have := h.labRow k e.symm; rw [hk] at this; cases this; rfl)), h3 k hlt]
  have ne : ∀ k l, ph.lab k = some l → l ≠ 0 → k ≠ A := fun k l hk hl e => hl (by rw [e, h.labA] at hk; cases hk; rfl)
  have other : ∀ k, k ≠ A → ((w4.setCell ⟨A, 8, none⟩ v).setCell ⟨A, 10, none⟩ (.pointer (some ⟨w.heap.size + 1, 0, none⟩))).heap[k]? = w4.heap[k]? := fun k hk => by
    rw [heap_setCell_other _ _ _ _ hk, heap_setCell_other _ _ _ _ hk]
  have hnew : w4.heap[w.heap.size + 1]? = some (.cells (callCells (freshCall (w.heap.size + 1) idx) (.slice none 0 0)) 84) := by
    rw [hg.block (w.heap.size + 1) (by omega) (fun e => by have := (h.labs _ _ (h.labRow _ e.symm)).2; omega)]
    unfold world3
    rw [Below.heap_alloc _ _ _ (by simp)]
    have := heap_alloc_new (w.alloc (.cells f.cells 34)) (.cells #[.int .i64 idx, .string ⟨#[]⟩, .string ⟨#[]⟩, .slice none 0 0] 84)
    simpa [freshCall] using this
  have hvk : ∀ k, v.ownBlock = some k → ph.lab k = some 1 ∨ w.heap.size + 3 ≤ k := fun k hk => by
    rcases hf k hk with h1 | h1
    · exact .inl (h.labRow k h1)
    · exact .inr (by rw [hsz3] at h1; exact h1)
  have old : ∀ k l, ph.lab k = some l → (ph.withCall w.heap.size v).lab k = some l := fun k l hk => by
    have hlt := (h.labs k l hk).2
    show setLab (setLab ph.lab (w.heap.size + 1) (some (w.heap.size + 1)) 3) (w.heap.size + 3) v.ownBlock 1 k = some l
    rw [setLab_old (by omega), setLab_old (by omega)]; exact hk
  have lab3 : (ph.withCall w.heap.size v).lab (w.heap.size + 1) = some 3 := by
    show setLab (setLab ph.lab (w.heap.size + 1) (some (w.heap.size + 1)) 3) (w.heap.size + 3) v.ownBlock 1 (w.heap.size + 1) = some 3
    rw [setLab_old (by omega), setLab_new (Nat.le_refl _)]
  have avOld : ∀ p ∈ s.calls, (ph.withCall w.heap.size v).av p.blk = ph.av p.blk := fun p hp => by
    have := (h.labs _ _ (h.labCall p hp)).2
    show (if p.blk = w.heap.size + 1 then _ else _) = _
    rw [if_neg (by omega)]
  have avNew : (ph.withCall w.heap.size v).av (w.heap.size + 1) = .slice none 0 0 := if_pos rfl
  refine ⟨ph.withCall w.heap.size v, rfl, ⟨?_, old _ _ h.labA, ?_, ?_, ?_, ?_, ?_, ?_, ?_, ?_, ?_, ?_⟩, ?_, rfl⟩
  · have h4 : w4.heap[A]? = some (.cells (asmCells mo fi ph.cv ph.mp s.latest) 79) := by rw [keptW _ _ h.labA (by omega)]; exact h.asm
    rw [heap_setCell_same _ A 10 _ 79 _ (heap_setCell_same w4 A 8 _ 79 v h4)]
    rfl
  · show ((w4.setCell _ v).setCell _ _).ownsRow B 57 1 v _ _
    have hl : (s.insert k (w.heap.size + 1) idx).calls.length = s.calls.length + 1 := by simp [St.insert]; omega
    have hm : (s.insert k (w.heap.size + 1) idx).calls.map Call.ptr = (s.calls.map Call.ptr).take k ++ .pointer (some ⟨w.heap.size + 1, 0, none⟩) :: (s.calls.map Call.ptr).drop k := by
      simp [St.insert, List.map_take, List.map_drop, freshCall]
    rw [hl, hm]
    refine ownsRow_same hown fun k hk => other k ?_
    rcases hvk k hk with h1 | h1
    · exact ne _ _ h1 (by omega)
    · omega
  · intro k hk
    have hk' : v.ownBlock = some k := hk
    rcases hvk k hk' with h1 | h1
    · exact old _ _ h1
    · show setLab _ (w.heap.size + 3) v.ownBlock 1 k = some 1
      rw [hk']; exact setLab_new h1
  · intro p hp
    rcases mem_insert hp with rfl | hp
    · show ((w4.setCell _ v).setCell _ _).heap[w.heap.size + 1]? = some (.cells (callCells _ ((ph.withCall w.heap.size v).av (w.heap.size + 1))) 84)
      rw [avNew, other _ (by omega)]; exact hnew
    · rw [avOld p hp, other _ (ne _ _ (h.labCall p hp) (by omega)), keptW _ _ (h.labCall p hp) (by omega)]; exact h.call p hp
  · intro p hp
    rcases mem_insert hp with rfl | hp
    · exact lab3
    · exact old _ _ (h.labCall p hp)
  · intro p hp
    rcases mem_insert hp with rfl | hp
    · show World.ownsRow _ B 5 1 ((ph.withCall w.heap.size v).av (w.heap.size + 1)) 0 []
      rw [avNew]; exact World.ownsRow_nil _ _ _ _
    · rw [avOld p hp]
      exact ownsRow_same (h.args p hp) fun k hk => by
        rw [other _ (ne _ _ (h.labArgs p hp k hk) (by omega)), keptW _ _ (h.labArgs p hp k hk) (by omega)]
  · intro p hp k hk
    rcases mem_insert hp with rfl | hp
    · have hk' : ((ph.withCall w.heap.size v).av (w.heap.size + 1)).ownBlock = some k := hk
      rw [avNew] at hk'
      simp [Value.ownBlock] at hk'
    · rw [avOld p hp] at hk
      exact old _ _ (h.labArgs p hp k hk)
  · have hn := h.names
    unfold MapAt at hn ⊢
    show match ph.mp with | none => ph.nm = [] | some m => (ph.withCall w.heap.size v).lab m = some 2 ∧ ∃ es clock, _ = some (Obj.map es clock) ∧ _ = ph.nm.map entryOf
    split
    · rename_i e; rw [e] at hn; exact hn
    · rename_i m e
      rw [e] at hn
      obtain ⟨hl, es, clock, h1, h2⟩ := hn
      exact ⟨old _ _ hl, es, clock, by rw [other _ (ne _ _ hl (by omega)), keptW _ _ hl (by omega)]; exact h1, h2⟩
  · have hb : (s.insert k (w.heap.size + 1) idx).calls.map Call.blk = (s.calls.map Call.blk).take k ++ (w.heap.size + 1) :: (s.calls.map Call.blk).drop k := by
      simp [St.insert, List.map_take, List.map_drop, freshCall]
    rw [hb]
    have hnd := h.nodup
    have hlt : ∀ x ∈ s.calls.map Call.blk, x < w.heap.size := fun x hx => by
      obtain ⟨p, hp, rfl⟩ := List.mem_map.1 hx
      exact (h.labs _ _ (h.labCall p hp)).2
    have hp : ((w.heap.size + 1) :: (s.calls.map Call.blk)).Nodup := List.nodup_cons.2 ⟨fun hm => by have := hlt _ hm; omega, hnd⟩
    have hperm : ((s.calls.map Call.blk).take k ++ (w.heap.size + 1) :: (s.calls.map Call.blk).drop k).Perm ((w.heap.size + 1) :: (s.calls.map Call.blk)) := by
      have := List.perm_middle (a := w.heap.size + 1) (l₁ := (s.calls.map Call.blk).take k) (l₂ := (s.calls.map Call.blk).drop k)
      rwa [List.take_append_drop] at this
    exact hperm.nodup_iff.2 hp
  · intro j l hj
    simp only [World.size_setCell]
    rcases setLab_cases hj with ⟨h1, h2, _⟩ | hj
    · exact hown.lt j h2
    · rcases setLab_cases hj with ⟨h1, h2, _⟩ | hj
      · simp at h2
        exact ⟨by omega, by omega⟩
      · have := h.labs j l hj
        exact ⟨this.1, by omega⟩
  · intro b i hb
    simp only [St.insert, Option.some.injEq, Prod.mk.injEq] at hb
    obtain ⟨rfl, rfl⟩ := hb
    exact ⟨freshCall (w.heap.size + 1) idx, by simp [St.insert], rfl, rfl⟩
  · refine ⟨hg.os.trans rfl, hg.tape.trans rfl, hg.output.trans rfl, by simp; omega, fun j hj hl => ?_, fun j hj => ?_⟩
    · rw [other j (fun e => by rw [e, h.labA] at hl; cases hl), hg.block j (by omega) (fun e => by have := h.labRow j e.symm; rw [hl] at this; cases this), h3 j hj]
    · show setLab (setLab ph.lab (w.heap.size + 1) (some (w.heap.size + 1)) 3) (w.heap.size + 3) v.ownBlock 1 j = _
      rw [setLab_old (by omega), setLab_old (by omega)]

end Go.Proofs.Qxb6600954a
