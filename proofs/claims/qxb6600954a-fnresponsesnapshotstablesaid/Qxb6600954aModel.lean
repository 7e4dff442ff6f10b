/-
  Seat b6600954a: the model's state (mstateB1): as plain data (MSt), and as it lies in memory (MHolds). Blocks bear labels (a ghost, as in State): 0 the state's box, 1 the calls' row, 2 + j the arguments of call j.
-/
import Derived.Test.Qxb6600954aState2
namespace Go.Proofs.Qxb6600954a
open Go.RowKit

structure MC where
  index : Int
  id : ByteArray
  name : ByteArray
  args : ByteArray

structure MSt where
  calls : List MC
  latest : Int

abbrev mcCells (c : MC) (a : Value) : List Value := [.int .i64 c.index, .string c.id, .string c.name, a]

/-- the calls' cells from call j on -/
def mrows (av : Nat → Value) : Nat → List MC → List Value
  | _, [] => []
  | j, c :: cs => mcCells c (av j) ++ mrows av (j + 1) cs

theorem mrows_length (av : Nat → Value) : ∀ (cs : List MC) (j : Nat), (mrows av j cs).length = cs.length * 4
  | [], _ => by simp [mrows]
  | c :: cs, j => by simp [mrows, mrows_length av cs]; omega

theorem mrows_append (av : Nat → Value) : ∀ (cs ds : List MC) (j : Nat), mrows av j (cs ++ ds) = mrows av j cs ++ mrows av (j + cs.length) ds
  | [], ds, j => by simp [mrows]
  | c :: cs, ds, j => by simp [mrows, mrows_append av cs ds (j + 1), Nat.add_assoc, Nat.add_comm 1]

theorem mrows_get (av : Nat → Value) : ∀ (cs : List MC) (b i : Nat) (c : MC) (k : Nat), cs[i]? = some c → k < 4 → (mrows av b cs)[i * 4 + k]? = (mcCells c (av (b + i)))[k]?
  | [], _, i, c, _, h, _ => by simp at h
  | d :: cs, b, 0, c, k, h, hk => by
    simp at h
    subst h
    show (mcCells d (av b) ++ _)[0 * 4 + k]? = _
    rw [Nat.zero_mul, Nat.zero_add, List.getElem?_append_left (by simpa using hk)]
    rfl
  | d :: cs, b, i + 1, c, k, h, hk => by
    show (mcCells d (av b) ++ mrows av (b + 1) cs)[(i + 1) * 4 + k]? = _
    rw [List.getElem?_append_right (by simp; omega)]
    have e : (i + 1) * 4 + k - (mcCells d (av b)).length = i * 4 + k := by simp; omega
    rw [e, mrows_get av cs (b + 1) i c k (by simpa using h) hk, Nat.add_assoc, Nat.add_comm 1 i]

theorem mrows_congr {av av' : Nat → Value} : ∀ (cs : List MC) (j : Nat), (∀ i, j ≤ i → i < j + cs.length → av i = av' i) → mrows av j cs = mrows av' j cs
  | [], _, _ => rfl
  | c :: cs, j, h => by
    simp only [mrows]
    rw [h j (Nat.le_refl _) (by simp), mrows_congr cs (j + 1) (fun i h1 h2 => h i (by omega) (by simp at h2 ⊢; omega))]

/-- one cell of one call turned -/
theorem mrows_set (av av' : Nat → Value) : ∀ (cs : List MC) (b i k : Nat) (c c' : MC) (u : Value), cs[i]? = some c → k < 4 → (mcCells c (av (b + i))).set k u = mcCells c' (av' (b + i)) → (∀ m, m ≠ b + i → av' m = av m) →
    (mrows av b cs).set (i * 4 + k) u = mrows av' b (cs.set i c')
  | [], _, i, _, c, _, _, h, _, _, _ => by simp at h
  | d :: cs, b, 0, k, c, c', u, h, hk, hs, ho => by
    simp at h
    subst h
    simp only [mrows, List.set_cons_zero]
    rw [Nat.zero_mul, Nat.zero_add, List.set_append_left _ _ (by simpa using hk)]
    rw [Nat.add_zero] at hs ho
    rw [hs, mrows_congr cs (b + 1) (fun m h1 _ => (ho m (by omega)).symm)]
  | d :: cs, b, i + 1, k, c, c', u, h, hk, hs, ho => by
    simp only [mrows, List.set_cons_succ]
    rw [List.set_append_right _ _ (by simp; omega)]
    have e : (i + 1) * 4 + k - (mcCells d (av b)).length = i * 4 + k := by simp; omega
    rw [e, mrows_set av av' cs (b + 1) i k c c' u (by simpa using h) hk (by rw [Nat.add_assoc, Nat.add_comm 1 i]; exact hs) (fun m hm => ho m (by omega)), ho b (by omega)]

/-- a store into an owned row -/
theorem ownsRow_set {w : World} {B g : Nat} {e : TypeId} {size : Nat} {n cap : Nat} {xs : List Value} (h : w.ownsRow B e size (.slice (some ⟨g, 0, none⟩) n cap) n xs) (i : Nat) (u : Value) :
    (w.setCell ⟨g, i, none⟩ u).ownsRow B e size (.slice (some ⟨g, 0, none⟩) n cap) n (xs.set i u) := by
  rcases h with ⟨hl, hc | ⟨g', cap', cur, hv, hb, hg, h1, h2, h3, h4⟩⟩
  · simp at hc
  · cases hv
    refine ⟨by simpa using hl, .inr ⟨g, cap, cur.setIfInBounds i u, rfl, hb, ?_, h1, h2, by simpa using h3, ?_⟩⟩
    · exact heap_setCell_same w g i cur e u hg
    · rw [Array.toList_setIfInBounds, List.take_set, h4]

structure MHolds (B S : Nat) (s : MSt) (ph : Phys) (w : World) : Prop where
  box : w.heap[S]? = some (.cells #[ph.cv, .int .i64 s.latest] 31)
  labS : ph.lab S = some 0
  row : w.ownsRow B 50 4 ph.cv s.calls.length (mrows ph.av 0 s.calls)
  labRow : ∀ k, ph.cv.ownBlock = some k → ph.lab k = some 1
  args : ∀ j c, s.calls[j]? = some c → w.ownsRow B 5 1 (ph.av j) c.args.size (byteCells c.args)
  labArgs : ∀ j c, s.calls[j]? = some c → ∀ k, (ph.av j).ownBlock = some k → ph.lab k = some (2 + j)
  labs : ∀ k l, ph.lab k = some l → B ≤ k ∧ k < w.heap.size
  latest : s.latest = -1 ∨ ∃ j : Nat, s.latest = j ∧ j < s.calls.length

theorem MHolds.frame {B S : Nat} {s : MSt} {ph : Phys} {w w' : World} (h : MHolds B S s ph w) (hsz : w.heap.size ≤ w'.heap.size) (hb : ∀ k l, ph.lab k = some l → w'.heap[k]? = w.heap[k]?) : MHolds B S s ph w' where
  box := by rw [hb _ _ h.labS]; exact h.box
  labS := h.labS
  row := ownsRow_same h.row fun k hk => hb _ _ (h.labRow k hk)
  labRow := h.labRow
  args := fun j c hc => ownsRow_same (h.args j c hc) fun k hk => hb _ _ (h.labArgs j c hc k hk)
  labArgs := h.labArgs
  labs := fun k l hk => ⟨(h.labs k l hk).1, Nat.lt_of_lt_of_le (h.labs k l hk).2 hsz⟩
  latest := h.latest

section
variable {B S : Nat} {s : MSt} {ph : Phys} {w : World}

/-- where there is a call the row lies at a block -/
theorem MHolds.rowAt (h : MHolds B S s ph w) {j : Nat} {c : MC} (hc : s.calls[j]? = some c) : ∃ g cap, ph.cv = .slice (some ⟨g, 0, none⟩) s.calls.length cap ∧ ph.lab g = some 1 ∧ ∀ i, i < 4 → w.cell? ⟨g, j * 4 + i, none⟩ = (mcCells c (ph.av j))[i]? := by
  have hj : j < s.calls.length := (List.getElem?_eq_some_iff.1 hc).1
  rcases h.row.2 with ⟨_, h0⟩ | ⟨g, cap, cur, hv, _⟩
  · omega
  · refine ⟨g, cap, hv, h.labRow g (by rw [hv]; rfl), fun i hi => ?_⟩
    have hg := mrows_get ph.av s.calls 0 j c i hc hi
    rw [Nat.zero_add] at hg
    have hlt : i < (mcCells c (ph.av j)).length := hi
    rw [List.getElem?_eq_getElem hlt] at hg ⊢
    have := h.row.cells (g := g) (by rw [hv]; rfl) _ _ hg
    rw [Addr.add_lit, Nat.zero_add] at this
    exact this

def MSt.put (s : MSt) (j : Nat) (c : MC) : MSt := { s with calls := s.calls.set j c }

theorem put_get {s : MSt} {j i : Nat} {c d : MC} (h : (s.put j c).calls[i]? = some d) : (i = j ∧ d = c) ∨ (i ≠ j ∧ s.calls[i]? = some d) := by
  simp only [MSt.put, List.getElem?_set] at h
  split at h
  · rename_i e
    split at h
    · exact .inl ⟨e.symm, (Option.some.inj h).symm⟩
    · cases h
  · rename_i e
    exact .inr ⟨fun x => e x.symm, h⟩

/-- a call's id or name stored -/
theorem MHolds.setField (h : MHolds B S s ph w) {j : Nat} {c c' : MC} (hc : s.calls[j]? = some c) {g cap : Nat} (hcv : ph.cv = .slice (some ⟨g, 0, none⟩) s.calls.length cap) (k : Nat) (hk : k < 4) (u : Value)
    (hs : (mcCells c (ph.av j)).set k u = mcCells c' (ph.av j)) (ha : c'.args = c.args) : MHolds B S (s.put j c') ph (w.setCell ⟨g, j * 4 + k, none⟩ u) := by
  have hg1 : ph.lab g = some 1 := h.labRow g (by rw [hcv]; rfl)
  have other : ∀ b l, ph.lab b = some l → l ≠ 1 → (w.setCell ⟨g, j * 4 + k, none⟩ u).heap[b]? = w.heap[b]? := fun b l hb hl => heap_setCell_other w ⟨g, j * 4 + k, none⟩ b u (fun e => hl (by have e' : b = g := e; rw [e', hg1] at hb; cases hb; rfl))
  refine ⟨?_, h.labS, ?_, h.labRow, ?_, ?_, ?_, ?_⟩
  · rw [other _ _ h.labS (by omega)]; exact h.box
  · have hr := h.row
    rw [hcv] at hr
    have := ownsRow_set hr (j * 4 + k) u
    rw [mrows_set ph.av ph.av s.calls 0 j k c c' u hc hk (by rw [Nat.zero_add]; exact hs) (fun _ _ => rfl)] at this
    simpa [MSt.put, hcv] using this
  · intro i d hd
    rcases put_get hd with ⟨rfl, rfl⟩ | ⟨_, hd⟩
    · rw [ha]; exact ownsRow_same (h.args _ c hc) fun b hb => other _ _ (h.labArgs _ c hc b hb) (by omega)
    · exact ownsRow_same (h.args i d hd) fun b hb => other _ _ (h.labArgs i d hd b hb) (by omega)
  · intro i d hd
    rcases put_get hd with ⟨rfl, rfl⟩ | ⟨_, hd⟩
    · exact h.labArgs _ c hc
    · exact h.labArgs i d hd
  · intro b l hb
    simpa using h.labs b l hb
  · simpa [MSt.put] using h.latest

def Phys.withMArgs (ph : Phys) (N j : Nat) (v : Value) : Phys := { ph with av := fun k => if k = j then v else ph.av k, lab := setLab ph.lab N v.ownBlock (2 + j) }

/-- append has laid the new arguments 'v' in 'W'; the store of v into the call closes it -/
theorem MHolds.setArgs (h : MHolds B S s ph w) {W : World} {j : Nat} {c : MC} (hc : s.calls[j]? = some c) {g cap : Nat} (hcv : ph.cv = .slice (some ⟨g, 0, none⟩) s.calls.length cap) {v : Value} {t : ByteArray}
    (hgr : w.grownBy W (ph.av j).ownBlock) (hf : FreshRow w (ph.av j) v) (hown : W.ownsRow B 5 1 v (c.args.size + t.size) (byteCells c.args ++ byteCells t)) :
    MHolds B S (s.put j { c with args := c.args ++ t }) (ph.withMArgs w.heap.size j v) (W.setCell ⟨g, j * 4 + 3, none⟩ v) ∧ Grows ph w (ph.withMArgs w.heap.size j v) (W.setCell ⟨g, j * 4 + 3, none⟩ v) := by
  have hg1 : ph.lab g = some 1 := h.labRow g (by rw [hcv]; rfl)
  have hgl := (h.labs _ _ hg1).2
  have hsz := hgr.size
  have keptW : ∀ b l, ph.lab b = some l → l ≠ 2 + j → W.heap[b]? = w.heap[b]? := fun b l hb hl =>
    hgr.block b (h.labs b l hb).2 (fun e => hl (by have := h.labArgs j c hc b e.symm; rw [hb] at this; cases this; rfl))
  have ne : ∀ b l, ph.lab b = some l → l ≠ 1 → b ≠ g := fun b l hb hl e => hl (by rw [e, hg1] at hb; cases hb; rfl)
  have other : ∀ b l, ph.lab b = some l → l ≠ 1 → l ≠ 2 + j → (W.setCell ⟨g, j * 4 + 3, none⟩ v).heap[b]? = w.heap[b]? := fun b l hb h1 h2 => by
    rw [heap_setCell_other W ⟨g, j * 4 + 3, none⟩ b v (ne b l hb h1)]; exact keptW b l hb h2
  have old : ∀ b l, ph.lab b = some l → (ph.withMArgs w.heap.size j v).lab b = some l := fun b l hb => by
    show setLab ph.lab w.heap.size v.ownBlock (2 + j) b = some l
    rw [setLab_old (h.labs b l hb).2]; exact hb
  have avJ : (ph.withMArgs w.heap.size j v).av j = v := if_pos rfl
  have avO : ∀ m, m ≠ j → (ph.withMArgs w.heap.size j v).av m = ph.av m := fun m hm => if_neg hm
  refine ⟨⟨?_, old _ _ h.labS, ?_, fun b hb => old _ _ (h.labRow b hb), ?_, ?_, ?_, ?_⟩, ?_⟩
  · rw [other _ _ h.labS (by omega) (by omega)]; exact h.box
  · have hr : W.ownsRow B 50 4 ph.cv s.calls.length (mrows ph.av 0 s.calls) := ownsRow_same h.row fun b hb => keptW _ _ (h.labRow b hb) (by omega)
    rw [hcv] at hr
    have := ownsRow_set hr (j * 4 + 3) v
    rw [mrows_set ph.av (ph.withMArgs w.heap.size j v).av s.calls 0 j 3 c { c with args := c.args ++ t } v hc (by omega) (by rw [Nat.zero_add, avJ]; rfl) (fun m hm => avO m (by omega))] at this
    have hcv' : (ph.withMArgs w.heap.size j v).cv = ph.cv := rfl
    rw [hcv', hcv]
    simpa [MSt.put] using this
  · intro i d hd
    rcases put_get hd with ⟨rfl, rfl⟩ | ⟨hne, hd⟩
    · rw [avJ]
      have e1 : (c.args ++ t).size = c.args.size + t.size := by rw [ByteArray.size_append]
      have e2 : byteCells (c.args ++ t) = byteCells c.args ++ byteCells t := by simp [byteCells]
      show (W.setCell _ v).ownsRow B 5 1 v (c.args ++ t).size (byteCells (c.args ++ t))
      rw [e1, e2]
      refine ownsRow_same hown fun b hb => heap_setCell_other W ⟨g, i * 4 + 3, none⟩ b v ?_
      rcases hf b hb with hb | hb
      · exact ne _ _ (h.labArgs i c hc b hb) (by omega)
      · show b ≠ g
        omega
    · rw [avO i hne]
      exact ownsRow_same (h.args i d hd) fun b hb => other _ _ (h.labArgs i d hd b hb) (by omega) (by omega)
  · intro i d hd b hb
    rcases put_get hd with ⟨rfl, rfl⟩ | ⟨hne, hd⟩
    · rw [avJ] at hb
      rcases hf b hb with hb2 | hb2
      · exact old _ _ (h.labArgs i c hc b hb2)
      · show setLab ph.lab w.heap.size v.ownBlock (2 + i) b = _
        rw [hb]; exact setLab_new hb2
    · rw [avO i hne] at hb
      exact old _ _ (h.labArgs i d hd b hb)
  · intro b l hb
    rcases setLab_cases hb with ⟨h1, h2, _⟩ | hb
    · have := hown.lt b h2
      exact ⟨this.1, by simpa using this.2⟩
    · have := h.labs b l hb
      exact ⟨this.1, by simp; omega⟩
  · simpa [MSt.put] using h.latest
  · refine ⟨hgr.os, hgr.tape, hgr.output, by simpa using hgr.size, fun b hb hl => ?_, fun b hb => setLab_old hb⟩
    rw [heap_setCell_other W ⟨g, j * 4 + 3, none⟩ b v (fun e => by have e' : b = g := e; rw [e', hg1] at hl; cases hl)]
    exact hgr.block b hb (fun e => by have := h.labArgs j c hc b e.symm; rw [hl] at this; cases this)

def freshMC (idx : Int) : MC := ⟨idx, ⟨#[]⟩, ⟨#[]⟩, ⟨#[]⟩⟩
def MSt.begin (s : MSt) (idx : Int) : MSt := { calls := s.calls ++ [freshMC idx], latest := s.calls.length }
def Phys.withMCall (ph : Phys) (N n : Nat) (v : Value) : Phys := { ph with cv := v, av := fun k => if k = n then .slice none 0 0 else ph.av k, lab := setLab ph.lab N v.ownBlock 1 }

/-- append has laid the new row 'v' in 'W' (over the literal's block); the stores into the box close it -/
theorem MHolds.newCall (h : MHolds B S s ph w) {W : World} {o : Obj} {idx : Int} {v : Value}
    (hgr : (w.alloc o).grownBy W ph.cv.ownBlock) (hf : FreshRow (w.alloc o) ph.cv v) (hown : W.ownsRow B 50 4 v (s.calls.length + 1) (mrows ph.av 0 s.calls ++ mcCells (freshMC idx) (.slice none 0 0))) :
    MHolds B S (s.begin idx) (ph.withMCall w.heap.size s.calls.length v) ((W.setCell ⟨S, 0, none⟩ v).setCell ⟨S, 1, none⟩ (.int .i64 s.calls.length)) ∧
    Grows ph w (ph.withMCall w.heap.size s.calls.length v) ((W.setCell ⟨S, 0, none⟩ v).setCell ⟨S, 1, none⟩ (.int .i64 s.calls.length)) := by
  have hSl := (h.labs _ _ h.labS).2
  have hsz := hgr.size
  simp at hsz
  have keptW : ∀ b l, ph.lab b = some l → l ≠ 1 → W.heap[b]? = w.heap[b]? := fun b l hb hl => by
    have hlt := (h.labs b l hb).2
    rw [hgr.block b (by simp; omega) (fun e => hl (by have := h.labRow b e.symm; rw [hb] at this; cases this; rfl)), Below.heap_alloc _ _ _ hlt]
  have ne : ∀ b l, ph.lab b = some l → l ≠ 0 → b ≠ S := fun b l hb hl e => hl (by rw [e, h.labS] at hb; cases hb; rfl)
  have other : ∀ b, b ≠ S → ((W.setCell ⟨S, 0, none⟩ v).setCell ⟨S, 1, none⟩ (.int .i64 s.calls.length)).heap[b]? = W.heap[b]? := fun b hb => by
    rw [heap_setCell_other _ _ _ _ hb, heap_setCell_other _ _ _ _ hb]
  have old : ∀ b l, ph.lab b = some l → (ph.withMCall w.heap.size s.calls.length v).lab b = some l := fun b l hb => by
    show setLab ph.lab w.heap.size v.ownBlock 1 b = some l
    rw [setLab_old (h.labs b l hb).2]; exact hb
  have hvk : ∀ b, v.ownBlock = some b → ph.lab b = some 1 ∨ w.heap.size ≤ b := fun b hb => by
    rcases hf b hb with h1 | h1
    · exact .inl (h.labRow b h1)
    · exact .inr (by simp at h1; omega)
  have avO : ∀ m, m < s.calls.length → (ph.withMCall w.heap.size s.calls.length v).av m = ph.av m := fun m hm => if_neg (by omega)
  have avN : (ph.withMCall w.heap.size s.calls.length v).av s.calls.length = .slice none 0 0 := if_pos rfl
  have getN : ∀ i d, (s.begin idx).calls[i]? = some d → s.calls[i]? = some d ∧ i < s.calls.length ∨ (i = s.calls.length ∧ d = freshMC idx) := fun i d hd => by
    simp only [MSt.begin] at hd
    by_cases hi : i < s.calls.length
    · rw [List.getElem?_append_left hi] at hd
      exact .inl ⟨hd, hi⟩
    · rw [List.getElem?_append_right (by omega)] at hd
      have h0 : i - s.calls.length = 0 := by
        have := (List.getElem?_eq_some_iff.1 hd).1
        simp at this
        omega
      rw [h0] at hd
      exact .inr ⟨by omega, (by simpa using hd.symm)⟩
  refine ⟨⟨?_, old _ _ h.labS, ?_, ?_, ?_, ?_, ?_, ?_⟩, ?_⟩
  · have h4 : W.heap[S]? = some (.cells #[ph.cv, .int .i64 s.latest] 31) := by rw [keptW _ _ h.labS (by omega)]; exact h.box
    rw [heap_setCell_same _ S 1 _ 31 _ (heap_setCell_same W S 0 _ 31 v h4)]
    rfl
  · have e1 : (s.begin idx).calls.length = s.calls.length + 1 := by simp [MSt.begin]
    have e2 : mrows (ph.withMCall w.heap.size s.calls.length v).av 0 (s.begin idx).calls = mrows ph.av 0 s.calls ++ mcCells (freshMC idx) (.slice none 0 0) := by
      simp only [MSt.begin]
      rw [mrows_append, mrows_congr s.calls 0 (fun i _ h2 => avO i (by omega))]
      simp only [mrows, Nat.zero_add, avN, List.append_nil]
    rw [e1, e2]
    refine ownsRow_same hown fun b hb => other b ?_
    rcases hvk b hb with h1 | h1
    · exact ne _ _ h1 (by omega)
    · omega
  · intro b hb
    rcases hvk b hb with h1 | h1
    · exact old _ _ h1
    · show setLab ph.lab w.heap.size v.ownBlock 1 b = _
      have hb' : v.ownBlock = some b := hb
      rw [hb']; exact setLab_new h1
  · intro i d hd
    rcases getN i d hd with ⟨hd, hi⟩ | ⟨rfl, rfl⟩
    · rw [avO i hi]
      exact ownsRow_same (h.args i d hd) fun b hb => by
        have hl := h.labArgs i d hd b hb
        rw [other b (ne _ _ hl (by omega))]; exact keptW _ _ hl (by omega)
    · rw [avN]
      exact World.ownsRow_nil _ _ _ _
  · intro i d hd b hb
    rcases getN i d hd with ⟨hd, hi⟩ | ⟨rfl, rfl⟩
    · rw [avO i hi] at hb
      exact old _ _ (h.labArgs i d hd b hb)
    · rw [avN] at hb
      simp [Value.ownBlock] at hb
  · intro b l hb
    rcases setLab_cases hb with ⟨h1, h2, _⟩ | hb
    · have := hown.lt b h2
      exact ⟨this.1, by simpa using this.2⟩
    · have := h.labs b l hb
      exact ⟨this.1, by simp; omega⟩
  · exact .inr ⟨s.calls.length, rfl, by simp [MSt.begin]⟩
  · refine ⟨hgr.os, hgr.tape, hgr.output, by simp; omega, fun b hb hl => ?_, fun b hb => setLab_old hb⟩
    rw [other b (fun e => by rw [e, h.labS] at hl; cases hl), hgr.block b (by simp; omega) (fun e => by have := h.labRow b e.symm; rw [hl] at this; cases this), Below.heap_alloc _ _ _ hb]

end

end Go.Proofs.Qxb6600954a
