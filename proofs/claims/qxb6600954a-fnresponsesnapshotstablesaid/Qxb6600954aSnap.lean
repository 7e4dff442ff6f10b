/-
  Seat b6600954a: the plain part of law 7: calls stand, in order, and only grow (Later); rows that are filled cell by cell (Fill).
-/
import Derived.Test.Qxb6600954aSame
namespace Go.Proofs.Qxb6600954a
open Go.RowKit

/-- what a call may become -/
def Ext (p q : Call) : Prop := q.blk = p.blk ∧ q.index = p.index ∧ (¬ emp p.id = true → q.id = p.id) ∧ (¬ emp p.name = true → q.name = p.name) ∧ ∃ t, q.args = p.args ++ t

theorem app_nil (a : ByteArray) : a ++ (⟨#[]⟩ : ByteArray) = a := by
  apply ByteArray.ext
  simp

theorem app_assoc (a b c : ByteArray) : a ++ b ++ c = a ++ (b ++ c) := by
  apply ByteArray.ext
  simp

theorem nil_app (a : ByteArray) : (⟨#[]⟩ : ByteArray) ++ a = a := by
  apply ByteArray.ext
  simp

theorem Ext.refl (p : Call) : Ext p p := ⟨rfl, rfl, fun _ => rfl, fun _ => rfl, ⟨#[]⟩, (app_nil _).symm⟩
theorem Ext.trans {p q r : Call} (h : Ext p q) (k : Ext q r) : Ext p r := by
  obtain ⟨h1, h2, h3, h4, t, h5⟩ := h
  obtain ⟨k1, k2, k3, k4, u, k5⟩ := k
  refine ⟨k1.trans h1, k2.trans h2, fun e => ?_, fun e => ?_, t ++ u, by rw [k5, h5, app_assoc]⟩
  · have := h3 e
    rw [k3 (by rw [this]; exact e), this]
  · have := h4 e
    rw [k4 (by rw [this]; exact e), this]

theorem Ext.fin (f : Frag) (p : Call) : Ext p (fin f p) := by
  refine ⟨rfl, rfl, fun e => ?_, fun e => ?_, f.args, rfl⟩
  · rw [fin_id, if_neg e]
  · show (if emp p.name = true then f.name else p.name) = p.name
    rw [if_neg e]

inductive Later : List Call → List Call → Prop
  | nil (l : List Call) : Later [] l
  | keep {p q : Call} {l m : List Call} : Ext p q → Later l m → Later (p :: l) (q :: m)
  | skip {l m : List Call} (q : Call) : Later l m → Later l (q :: m)

theorem Later.refl : ∀ l, Later l l
  | [] => .nil _
  | p :: l => .keep (Ext.refl p) (Later.refl l)

theorem Later.trans {a b c : List Call} (h : Later a b) (k : Later b c) : Later a c := by
  induction k generalizing a with
  | nil l => cases h; exact .nil _
  | keep e _ ih =>
    cases h with
    | nil => exact .nil _
    | keep e2 h2 => exact .keep (e2.trans e) (ih h2)
    | skip _ h2 => exact .skip _ (ih h2)
  | skip q _ ih => exact .skip q (ih h)

theorem Later.pre : ∀ (pre : List Call) {l m : List Call}, Later l m → Later (pre ++ l) (pre ++ m)
  | [], _, _, h => h
  | p :: pre, _, _, h => .keep (Ext.refl p) (Later.pre pre h)

theorem Later.add {l : List Call} {s : St} {N : Nat} (h : Later l s.calls) (f : Frag) (hn : (s.calls.map Call.blk).Nodup) (hN : ∀ q ∈ s.calls, q.blk ≠ N) : Later l (addF N s f).calls := by
  refine h.trans ?_
  rcases add_cases f hn hN with ⟨pre, p, post, e1, e2, _, _⟩ | ⟨pre, post, e1, _, _, e2, _, _, _⟩
  · rw [e1, e2]
    exact Later.pre pre (.keep (Ext.fin f p) (Later.refl _))
  · rw [e1, e2]
    exact Later.pre pre (.skip _ (Later.refl _))

theorem Later.length {l m : List Call} (h : Later l m) : l.length ≤ m.length := by
  induction h with
  | nil => simp
  | keep _ _ ih => simp; omega
  | skip _ _ ih => simp; omega

theorem Later.mem {l m : List Call} (h : Later l m) : ∀ p ∈ l, ∃ q ∈ m, Ext p q := by
  induction h with
  | nil => intro p hp; simp at hp
  | keep e _ ih =>
    intro p hp
    rcases List.mem_cons.1 hp with rfl | hp
    · exact ⟨_, by simp, e⟩
    · obtain ⟨q, hq, he⟩ := ih p hp
      exact ⟨q, by simp [hq], he⟩
  | skip _ _ ih =>
    intro p hp
    obtain ⟨q, hq, he⟩ := ih p hp
    exact ⟨q, by simp [hq], he⟩

/-- one look of the scan -/
theorem Later.look {p q : Call} {l m : List Call} (h : Later (p :: l) (q :: m)) (hn : ((q :: m).map Call.blk).Nodup) : (q.blk = p.blk ∧ Ext p q ∧ Later l m) ∨ (q.blk ≠ p.blk ∧ Later (p :: l) m) := by
  cases h with
  | keep e h => exact .inl ⟨e.1, e, h⟩
  | skip _ h =>
    refine .inr ⟨fun e => ?_, h⟩
    obtain ⟨r, hr, er⟩ := h.mem p (by simp)
    rw [List.map_cons, List.nodup_cons] at hn
    exact hn.1 (List.mem_map.2 ⟨r, hr, by rw [er.1, e]⟩)

theorem Later.look_at {cs ds : List Call} {j k : Nat} {p q : Call} (h : Later (cs.drop j) (ds.drop k)) (hp : cs[j]? = some p) (hq : ds[k]? = some q) (hn : (ds.map Call.blk).Nodup) :
    (q.blk = p.blk ∧ Ext p q ∧ Later (cs.drop (j + 1)) (ds.drop (k + 1))) ∨ (q.blk ≠ p.blk ∧ Later (cs.drop j) (ds.drop (k + 1))) := by
  obtain ⟨hj, rfl⟩ := List.getElem?_eq_some_iff.1 hp
  obtain ⟨hk, rfl⟩ := List.getElem?_eq_some_iff.1 hq
  rw [List.drop_eq_getElem_cons hj, List.drop_eq_getElem_cons hk] at h
  have hn2 : ((ds[k] :: ds.drop (k + 1)).map Call.blk).Nodup := by
    rw [← List.drop_eq_getElem_cons hk, List.map_drop]
    exact hn.sublist (List.drop_sublist _ _)
  rcases h.look hn2 with h1 | ⟨h1, h2⟩
  · exact .inl h1
  · exact .inr ⟨h1, by rw [List.drop_eq_getElem_cons hj]; exact h2⟩

/-- the scan does not run out -/
theorem Later.more {cs ds : List Call} {j k : Nat} {p : Call} (h : Later (cs.drop j) (ds.drop k)) (hp : cs[j]? = some p) : k < ds.length := by
  have := h.length
  have hj : j < cs.length := (List.getElem?_eq_some_iff.1 hp).1
  rw [List.length_drop, List.length_drop] at this
  omega

theorem Ext.out {p q : Call} (h : Ext p q) : ∃ t, argOut q.args = p.args ++ t := by
  obtain ⟨_, _, _, _, t, h5⟩ := h
  unfold argOut
  split
  · rename_i e
    have e1 : p.args = ⟨#[]⟩ := by
      rw [h5, emp_iff] at e
      have : (p.args ++ t).size = 0 := by rw [e]; rfl
      rw [ByteArray.size_append] at this
      have h0 : p.args.size = 0 := by omega
      apply ByteArray.ext
      exact Array.eq_empty_of_size_eq_zero h0
    exact ⟨sBraces, by rw [e1, nil_app]⟩
  · exact ⟨t, h5⟩

/-! ### a row filled cell by cell -/

def Fill (W : World) (b : Nat) (t : TypeId) (xs : List Value) (k : Nat) : Prop := ∃ arr : Array Value, W.heap[b]? = some (.cells arr t) ∧ arr.size = xs.length ∧ ∀ q, q < k → arr[q]? = xs[q]?

theorem Fill.start {W : World} {b : Nat} {t : TypeId} {xs : List Value} {arr : Array Value} (h : W.heap[b]? = some (.cells arr t)) (hs : arr.size = xs.length) : Fill W b t xs 0 := ⟨arr, h, hs, fun q hq => by omega⟩
theorem Fill.lt {W : World} {b : Nat} {t : TypeId} {xs : List Value} {k : Nat} (h : Fill W b t xs k) : b < W.heap.size := by obtain ⟨_, h, _⟩ := h; exact (Array.getElem?_eq_some_iff.1 h).1
theorem Fill.step {W : World} {b : Nat} {t : TypeId} {xs : List Value} {k : Nat} {v : Value} (h : Fill W b t xs k) (hv : xs[k]? = some v) : Fill (W.setCell ⟨b, k, none⟩ v) b t xs (k + 1) := by
  obtain ⟨arr, h1, h2, h3⟩ := h
  have hk : k < xs.length := (List.getElem?_eq_some_iff.1 hv).1
  refine ⟨arr.setIfInBounds k v, heap_setCell_same W b k arr t v h1, by simpa using h2, fun q hq => ?_⟩
  rw [Array.getElem?_setIfInBounds]
  by_cases e : k = q
  · subst e; rw [if_pos rfl, if_pos (by omega), hv]
  · rw [if_neg e]; exact h3 q (by omega)
theorem Fill.same {W W' : World} {b : Nat} {t : TypeId} {xs : List Value} {k : Nat} (h : Fill W b t xs k) (e : W'.heap[b]? = W.heap[b]?) : Fill W' b t xs k := by
  obtain ⟨arr, h1, h2, h3⟩ := h
  exact ⟨arr, by rw [e]; exact h1, h2, h3⟩
theorem Fill.other {W : World} {b b' i : Nat} {t : TypeId} {xs : List Value} {k : Nat} {v : Value} (h : Fill W b t xs k) (hne : b ≠ b') : Fill (W.setCell ⟨b', i, none⟩ v) b t xs k :=
  h.same (heap_setCell_other W ⟨b', i, none⟩ b v hne)
theorem Fill.free {W : World} {b : Nat} {t : TypeId} {xs : List Value} {k : Nat} (h : Fill W b t xs k) (i : Nat) : W.frozen? ⟨b, i, none⟩ = false := by
  obtain ⟨arr, h1, _⟩ := h
  simp [World.frozen?, h1]
theorem Fill.some {W : World} {b : Nat} {t : TypeId} {xs : List Value} {k : Nat} (h : Fill W b t xs k) {i : Nat} (hi : i < xs.length) : ∃ v, W.cell? ⟨b, i, none⟩ = some v := by
  obtain ⟨arr, h1, h2, _⟩ := h
  exact ⟨arr[i], by simp [World.cell?, h1, h2, hi]⟩
theorem Fill.cell {W : World} {b : Nat} {t : TypeId} {xs : List Value} {k : Nat} (h : Fill W b t xs k) {i : Nat} {v : Value} (hi : i < k) (hv : xs[i]? = .some v) : W.cell? ⟨b, i, none⟩ = .some v := by
  obtain ⟨arr, h1, h2, h3⟩ := h
  have := h3 i hi
  simp [World.cell?, h1, this, hv]

theorem Fill.crow {W : World} {b : Nat} {cs : List Call} (h : Fill W b 52 (tcRows cs) (cs.length * 3)) : CRow W b cs := by
  intro i p hp
  have hi : i < cs.length := (List.getElem?_eq_some_iff.1 hp).1
  exact ⟨h.cell (by omega) (tcRows_get cs i 0 p hp (by omega)), h.cell (by omega) (tcRows_get cs i 1 p hp (by omega)), h.cell (by omega) (tcRows_get cs i 2 p hp (by omega))⟩

end Go.Proofs.Qxb6600954a
