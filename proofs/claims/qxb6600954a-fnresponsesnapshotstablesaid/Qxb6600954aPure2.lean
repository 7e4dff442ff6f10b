/-
  Seat b6600954a: addToolCall as a plain function on the state: the parts, and that the map of names stays true.
-/
import Derived.Test.Qxb6600954aPure
namespace Go.Proofs.Qxb6600954a
open Go.RowKit

def idUpd (f : Frag) (q : Call) : Call := { q with id := if emp q.id = true then f.id else q.id }
def nameUpd (f : Frag) (q : Call) : Call := { q with name := if emp q.name = true then f.name else q.name }
def argUpd (f : Frag) (q : Call) : Call := { q with args := q.args ++ f.args }

def byId (s : St) (id : ByteArray) : Option Call := if emp id = true then none else s.calls.find? fun p => decide (p.id = id)

/-- the state with the call that the fragment joins, and that call's block -/
def head (N : Nat) (s : St) (f : Frag) : St × Nat :=
  match byId s f.id with
  | some p => (s, p.blk)
  | none => atF N s f

def addF (N : Nat) (s : St) (f : Frag) : St := (((head N s f).1.upd (head N s f).2 (idUpd f)).upd (head N s f).2 (nameUpd f)).upd (head N s f).2 (argUpd f)

/-- the map leads each name to its call -/
def NmOk (nm : List (ByteArray × Nat)) (s : St) : Prop := ∀ id, look nm id = (byId s id).map Call.blk

theorem emp_iff (s : ByteArray) : emp s = true ↔ s = ⟨#[]⟩ := by
  unfold emp
  rw [ByteArray.toList_eq, List.isEmpty_iff]
  obtain ⟨⟨l⟩⟩ := s
  simp

theorem emp_nil : emp ⟨#[]⟩ = true := by rw [emp_iff]

theorem upd_eq {s : St} {b : Nat} {f g : Call → Call} (h : ∀ q ∈ s.calls, q.blk = b → f q = g q) : s.upd b f = s.upd b g := by
  unfold St.upd
  congr 1
  refine List.map_congr_left fun q hq => ?_
  split
  · rename_i e; exact h q hq e
  · rfl

theorem upd_self {s : St} {b : Nat} {f : Call → Call} (h : ∀ q ∈ s.calls, q.blk = b → f q = q) : s.upd b f = s := by
  obtain ⟨cs, l⟩ := s
  unfold St.upd
  congr 1
  have : cs.map (fun p => if p.blk = b then f p else p) = cs.map id := List.map_congr_left fun q hq => by
    split
    · rename_i e; exact h q hq e
    · rfl
  simpa using this

theorem same_of_nodup : ∀ {cs : List Call}, (cs.map Call.blk).Nodup → ∀ {p q : Call}, p ∈ cs → q ∈ cs → q.blk = p.blk → q = p
  | [], _, _, _, hp, _, _ => by simp at hp
  | c :: cs, hn, p, q, hp, hq, e => by
    rw [List.map_cons, List.nodup_cons] at hn
    rcases List.mem_cons.1 hp with rfl | hp'
    · rcases List.mem_cons.1 hq with rfl | hq'
      · rfl
      · exact absurd (List.mem_map.2 ⟨q, hq', e⟩) hn.1
    · rcases List.mem_cons.1 hq with rfl | hq'
      · exact absurd (List.mem_map.2 ⟨p, hp', e.symm⟩) hn.1
      · exact same_of_nodup hn.2 hp' hq' e

theorem find_map (g : Call → Call) (id : ByteArray) : ∀ (l : List Call), (∀ q ∈ l, ((g q).id = id ↔ q.id = id)) → (∀ q ∈ l, (g q).blk = q.blk) →
    ((l.map g).find? fun p => decide (p.id = id)).map Call.blk = (l.find? fun p => decide (p.id = id)).map Call.blk
  | [], _, _ => rfl
  | q :: l, h, hb => by
    rw [List.map_cons, List.find?_cons, List.find?_cons]
    by_cases e : q.id = id
    · have e' := (h q (by simp)).2 e
      simp [e, e', hb q (by simp)]
    · have e' : ¬ (g q).id = id := fun x => e ((h q (by simp)).1 x)
      simp only [e, e', decide_false]
      exact find_map g id l (fun q hq => h q (by simp [hq])) (fun q hq => hb q (by simp [hq]))

theorem find_set (g : Call → Call) (id : ByteArray) (b : Nat) : ∀ (l : List Call), (∀ q ∈ l, (g q).id = id → (g q).blk = b) → (∃ q ∈ l, (g q).id = id) →
    ((l.map g).find? fun p => decide (p.id = id)).map Call.blk = some b
  | [], _, h => by obtain ⟨q, hq, _⟩ := h; simp at hq
  | q :: l, h, he => by
    rw [List.map_cons, List.find?_cons]
    by_cases e : (g q).id = id
    · simp [e, h q (by simp) e]
    · simp only [e, decide_false]
      refine find_set g id b l (fun q hq => h q (by simp [hq])) ?_
      obtain ⟨r, hr, hr2⟩ := he
      rcases List.mem_cons.1 hr with rfl | hr
      · exact absurd hr2 e
      · exact ⟨r, hr, hr2⟩

/-- a turn that leaves the ids alone leaves the names alone -/
theorem byId_upd {s : St} {b : Nat} {g : Call → Call} (hb : ∀ q, (g q).blk = q.blk) (hi : ∀ q ∈ s.calls, q.blk = b → (g q).id = q.id) (id : ByteArray) : (byId (s.upd b g) id).map Call.blk = (byId s id).map Call.blk := by
  unfold byId
  split
  · rfl
  · refine find_map _ id s.calls (fun q hq => ?_) (fun q hq => ?_)
    · split
      · rename_i e; rw [hi q hq e]
      · exact Iff.rfl
    · split
      · exact hb q
      · rfl

/-- a call without an id is given one that no call bears -/
theorem byId_set {s : St} {p : Call} {f : Frag} (hp : p ∈ s.calls) (hpe : ∀ q ∈ s.calls, q.blk = p.blk → emp q.id = true) (hf : ¬ emp f.id = true) (hn : byId s f.id = none) (id : ByteArray) :
    (byId (s.upd p.blk (idUpd f)) id).map Call.blk = if id = f.id then some p.blk else (byId s id).map Call.blk := by
  have hno : ∀ q ∈ s.calls, q.id ≠ f.id := fun q hq e => by
    unfold byId at hn
    rw [if_neg hf, List.find?_eq_none] at hn
    exact hn q hq (by simpa using e)
  have hg : ∀ q ∈ s.calls, q.blk = p.blk → (idUpd f q).id = f.id := fun q hq e => by
    show (if emp q.id = true then f.id else q.id) = f.id
    rw [if_pos (hpe q hq e)]
  by_cases e : id = f.id
  · subst e
    rw [if_pos rfl]
    unfold byId
    rw [if_neg hf]
    refine find_set _ f.id p.blk s.calls (fun q hq h => ?_) ⟨p, hp, ?_⟩
    · by_cases eb : q.blk = p.blk
      · rw [if_pos eb]; exact eb
      · rw [if_neg eb] at h; exact absurd h (hno q hq)
    · rw [if_pos rfl]; exact hg p hp rfl
  · rw [if_neg e]
    unfold byId
    split
    · rfl
    · rename_i hne
      refine find_map _ id s.calls (fun q hq => ?_) (fun q hq => ?_)
      · split
        · rename_i eb
          rw [hg q hq eb]
          refine ⟨fun h => absurd h.symm e, fun h => ?_⟩
          exact absurd (h ▸ hpe q hq eb) hne
        · exact Iff.rfl
      · split <;> rfl

theorem look_append (nm : List (ByteArray × Nat)) (a id : ByteArray) (b : Nat) (h : look nm a = none) : look (nm ++ [(a, b)]) id = if id = a then some b else look nm id := by
  induction nm with
  | nil =>
    by_cases e : a = id
    · subst e; simp [look]
    · have : ¬ id = a := fun x => e x.symm
      simp [look, e, this]
  | cons x nm ih =>
    have hx : ¬ x.1 = a := fun e => by simp [look, e] at h
    have h' : look nm a = none := by simpa [look, hx] using h
    by_cases e : x.1 = id
    · have : ¬ id = a := fun y => hx (e.trans y)
      simp [look, e, this]
    · simp only [List.cons_append, look, e, if_false]
      exact ih h'

theorem NmOk.turn {nm : List (ByteArray × Nat)} {s : St} {b : Nat} {g : Call → Call} (h : NmOk nm s) (hb : ∀ q, (g q).blk = q.blk) (hi : ∀ q ∈ s.calls, q.blk = b → (g q).id = q.id) : NmOk nm (s.upd b g) :=
  fun id => by rw [byId_upd hb hi]; exact h id

theorem NmOk.put {nm : List (ByteArray × Nat)} {s : St} {p : Call} {f : Frag} (h : NmOk nm s) (hp : p ∈ s.calls) (hpe : ∀ q ∈ s.calls, q.blk = p.blk → emp q.id = true) (hf : ¬ emp f.id = true) (hn : byId s f.id = none) :
    NmOk (nm ++ [(f.id, p.blk)]) (s.upd p.blk (idUpd f)) := fun id => by
  rw [byId_set hp hpe hf hn, look_append _ _ _ _ (by rw [h, hn]; rfl), h id]

/-- a new call bears no id: the names stay -/
theorem byId_insert (s : St) (k N : Nat) (idx : Int) (id : ByteArray) : byId (s.insert k N idx) id = byId s id := by
  unfold byId
  split
  · rfl
  · rename_i hne
    have hf : ¬ (freshCall N idx).id = id := fun e => hne (by rw [← e]; exact emp_nil)
    show (s.calls.take k ++ freshCall N idx :: s.calls.drop k).find? _ = _
    rw [List.find?_append, List.find?_cons]
    simp only [hf, decide_false]
    rw [← List.find?_append, List.take_append_drop]


theorem NmOk.at {nm : List (ByteArray × Nat)} {s : St} (h : NmOk nm s) (N : Nat) (f : Frag) : NmOk nm (atF N s f).1 := fun id => by
  unfold atF
  split
  · exact h id
  · show look nm id = (byId (s.insert _ _ _) id).map Call.blk
    rw [byId_insert]; exact h id


theorem byId_at (N : Nat) (s : St) (f : Frag) (id : ByteArray) : byId (atF N s f).1 id = byId s id := by
  unfold atF
  split
  · rfl
  · exact byId_insert s _ _ _ id

theorem byId_mem {s : St} {id : ByteArray} {p : Call} (h : byId s id = some p) : p ∈ s.calls ∧ p.id = id ∧ ¬ emp id = true := by
  unfold byId at h
  split at h
  · cases h
  · rename_i he
    exact ⟨List.mem_of_find?_eq_some h, by simpa using List.find?_some h, he⟩

theorem head_hit {N : Nat} {s : St} {f : Frag} {p : Call} (h : byId s f.id = some p) : head N s f = (s, p.blk) := by unfold head; rw [h]
theorem head_miss {N : Nat} {s : St} {f : Frag} (h : byId s f.id = none) : head N s f = atF N s f := by unfold head; rw [h]

/-- the call that a fragment with an id joins bears that id, or none, and then no call bears it -/
theorem head_none {N : Nat} {s : St} {f : Frag} {p : Call} (hnd : ((head N s f).1.calls.map Call.blk).Nodup) (hp : p ∈ (head N s f).1.calls) (hb : p.blk = (head N s f).2) (he : emp p.id = true) : byId (head N s f).1 f.id = none := by
  cases hi : byId s f.id with
  | none => rw [head_miss hi, byId_at]; exact hi
  | some q =>
    rw [head_hit hi] at hnd hp hb
    obtain ⟨h1, h2, h3⟩ := byId_mem hi
    have := same_of_nodup hnd h1 hp hb
    rw [← h2, ← this] at h3
    exact absurd he h3

end Go.Proofs.Qxb6600954a
