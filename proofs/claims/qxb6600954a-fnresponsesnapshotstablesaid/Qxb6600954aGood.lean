/-
  Seat b6600954a: the plain laws of addToolCall on the state: what one fragment does, case by case; what holds after any script.
-/
import Derived.Test.Qxb6600954aPure2
namespace Go.Proofs.Qxb6600954a

def fin (f : Frag) (q : Call) : Call := argUpd f (nameUpd f (idUpd f q))

theorem upd_upd (s : St) (b : Nat) (g h : Call → Call) (hg : ∀ q, (g q).blk = q.blk) : (s.upd b g).upd b h = s.upd b fun q => h (g q) := by
  unfold St.upd
  simp only [List.map_map]
  congr 1
  refine List.map_congr_left fun q _ => ?_
  simp only [Function.comp]
  by_cases e : q.blk = b
  · simp [e, hg]
  · simp [e]

theorem addF_eq (N : Nat) (s : St) (f : Frag) : addF N s f = (head N s f).1.upd (head N s f).2 (fin f) := by
  unfold addF
  rw [upd_upd _ _ (idUpd f) (nameUpd f) (fun _ => rfl), upd_upd _ _ (fun q => nameUpd f (idUpd f q)) (argUpd f) (fun _ => rfl)]
  rfl

theorem upd_split {s : St} {p : Call} (hn : (s.calls.map Call.blk).Nodup) (hp : p ∈ s.calls) (g : Call → Call) : ∃ pre post, s.calls = pre ++ p :: post ∧ (s.upd p.blk g).calls = pre ++ g p :: post := by
  obtain ⟨pre, post, h⟩ := List.append_of_mem hp
  refine ⟨pre, post, h, ?_⟩
  rw [h, List.map_append, List.map_cons] at hn
  have h1 : ∀ q ∈ pre, q.blk ≠ p.blk := fun q hq e => by
    have := (List.nodup_append.1 hn).2.2 q.blk (List.mem_map.2 ⟨q, hq, rfl⟩) p.blk (by simp)
    exact this e
  have h2 : ∀ q ∈ post, q.blk ≠ p.blk := fun q hq e => by
    have := (List.nodup_cons.1 (List.nodup_append.1 hn).2.1).1
    exact this (List.mem_map.2 ⟨q, hq, e⟩)
  show s.calls.map _ = _
  rw [h, List.map_append, List.map_cons, if_pos rfl]
  congr 1
  · conv => rhs; rw [← List.map_id pre]
    exact List.map_congr_left fun q hq => by rw [if_neg (h1 q hq)]; rfl
  · congr 1
    conv => rhs; rw [← List.map_id post]
    exact List.map_congr_left fun q hq => by rw [if_neg (h2 q hq)]; rfl

theorem cont_mem {s : St} {f : Frag} {c : Call} (h : cont s f = some c) : c ∈ s.calls ∧ c.index = resolve s f ∧ (emp f.id = true ∨ emp c.id = true) ∧ ∃ k, place s.calls (resolve s f) = k + 1 ∧ s.calls[k]? = some c := by
  unfold cont at h
  split at h
  · cases h
  · rename_i k hk
    split at h
    · rename_i c' hc
      split at h
      · rename_i hcond
        cases h
        exact ⟨List.mem_of_getElem? hc, hcond.1, hcond.2, k, hk, hc⟩
      · cases h
    · cases h

/-- WHAT ONE FRAGMENT DOES: it joins a call p (J), or begins one (N). -/
def Joins (s : St) (f : Frag) (s' : St) (pre : List Call) (p : Call) (post : List Call) : Prop :=
  s.calls = pre ++ p :: post ∧ s'.calls = pre ++ fin f p :: post ∧ s'.latest = s.latest ∧ ((¬ emp f.id = true ∧ p.id = f.id) ∨ (byId s f.id = none ∧ (emp f.id = true ∨ emp p.id = true) ∧ cont s f = some p))
def Begins (N : Nat) (s : St) (f : Frag) (s' : St) (pre post : List Call) : Prop :=
  s.calls = pre ++ post ∧ pre = s.calls.take (place s.calls (resolve s f)) ∧ post = s.calls.drop (place s.calls (resolve s f)) ∧ s'.calls = pre ++ fin f (freshCall N (resolve s f)) :: post ∧ s'.latest = some (N, resolve s f) ∧ byId s f.id = none ∧ cont s f = none

theorem add_cases {s : St} {N : Nat} (f : Frag) (hn : (s.calls.map Call.blk).Nodup) (hN : ∀ q ∈ s.calls, q.blk ≠ N) :
    (∃ pre p post, Joins s f (addF N s f) pre p post) ∨ (∃ pre post, Begins N s f (addF N s f) pre post) := by
  rw [addF_eq]
  cases hb : byId s f.id with
  | some p =>
    obtain ⟨h1, h2, h3⟩ := byId_mem hb
    rw [head_hit hb]
    obtain ⟨pre, post, e1, e2⟩ := upd_split hn h1 (fin f)
    exact .inl ⟨pre, p, post, e1, e2, rfl, .inl ⟨h3, h2⟩⟩
  | none =>
    rw [head_miss hb]
    cases hc : cont s f with
    | some c =>
      rw [atF_cont hc]
      obtain ⟨h1, h2, h3, _⟩ := cont_mem hc
      obtain ⟨pre, post, e1, e2⟩ := upd_split hn h1 (fin f)
      exact .inl ⟨pre, c, post, e1, e2, rfl, .inr ⟨hb, h3, hc⟩⟩
    | none =>
      rw [atF_new hc]
      refine .inr ⟨_, _, (List.take_append_drop (place s.calls (resolve s f)) s.calls).symm, rfl, rfl, ?_, rfl, hb, hc⟩
      show (s.calls.take _ ++ freshCall N (resolve s f) :: s.calls.drop _).map (fun p => if p.blk = N then fin f p else p) = _
      rw [List.map_append, List.map_cons, if_pos (show (freshCall N (resolve s f)).blk = N from rfl)]
      congr 1
      · conv => rhs; rw [← List.map_id (s.calls.take _)]
        exact List.map_congr_left fun q hq => by rw [if_neg (hN q (List.mem_of_mem_take hq))]; rfl
      · congr 1
        conv => rhs; rw [← List.map_id (s.calls.drop _)]
        exact List.map_congr_left fun q hq => by rw [if_neg (hN q (List.mem_of_mem_drop hq))]; rfl

/-- the calls that bear an id -/
def cnt (cs : List Call) (x : ByteArray) : Nat := cs.countP fun p => decide (p.id = x)
def asum (cs : List Call) : Nat := (cs.map fun p => p.args.size).sum
def fsum (fs : List Frag) : Nat := (fs.map fun f => f.args.size).sum

structure Good (fs : List Frag) (s : St) : Prop where
  sorted : Sorted s.calls
  count : s.calls.length ≤ fs.length
  pos : fs ≠ [] → s.calls ≠ []
  lat : s.calls ≠ [] → ∃ b p, s.latest = some (b, p.index) ∧ p ∈ s.calls
  uniq : ∀ x, ¬ emp x = true → cnt s.calls x ≤ 1
  ids : ∀ f ∈ fs, ¬ emp f.id = true → cnt s.calls f.id = 1
  sum : asum s.calls = fsum fs

theorem Good.nil : Good [] ⟨[], none⟩ :=
  ⟨fun i j p q h => by simp at h, Nat.le_refl _, fun h => absurd rfl h, fun h => absurd rfl h, fun _ _ => by simp [cnt], fun f hf => by simp at hf, rfl⟩

theorem cnt_append (a b : List Call) (x : ByteArray) : cnt (a ++ b) x = cnt a x + cnt b x := by simp [cnt]
theorem cnt_cons (p : Call) (a : List Call) (x : ByteArray) : cnt (p :: a) x = (if p.id = x then 1 else 0) + cnt a x := by
  simp only [cnt, List.countP_cons, decide_eq_true_eq]
  omega
theorem asum_append (a b : List Call) : asum (a ++ b) = asum a + asum b := by simp [asum]
theorem asum_cons (p : Call) (a : List Call) : asum (p :: a) = p.args.size + asum a := by simp [asum]

theorem byId_none_cnt {s : St} {id : ByteArray} (h : byId s id = none) (he : ¬ emp id = true) : cnt s.calls id = 0 := by
  unfold byId at h
  rw [if_neg he, List.find?_eq_none] at h
  exact List.countP_eq_zero.2 h

theorem cnt_byId {s : St} {id : ByteArray} (he : ¬ emp id = true) (h : cnt s.calls id = 1) : byId s id ≠ none := fun hn => by
  rw [byId_none_cnt hn he] at h; cases h

theorem fin_id (f : Frag) (q : Call) : (fin f q).id = if emp q.id = true then f.id else q.id := rfl
theorem fin_args (f : Frag) (q : Call) : (fin f q).args = q.args ++ f.args := rfl
theorem fin_index (f : Frag) (q : Call) : (fin f q).index = q.index := rfl

/-- the indices of a list of calls decide whether it is sorted -/
theorem sorted_of_map {a b : List Call} (h : a.map (·.index) = b.map (·.index)) (hs : Sorted a) : Sorted b := by
  intro i j p q hp hq hij
  have e1 : (a.map (·.index))[i]? = some p.index := by rw [h, List.getElem?_map, hp]; rfl
  have e2 : (a.map (·.index))[j]? = some q.index := by rw [h, List.getElem?_map, hq]; rfl
  rw [List.getElem?_map, Option.map_eq_some_iff] at e1 e2
  obtain ⟨p', hp', e1⟩ := e1
  obtain ⟨q', hq', e2⟩ := e2
  have := hs i j p' q' hp' hq' hij
  omega

theorem sorted_insert {cs : List Call} {idx : Int} {c : Call} (hs : Sorted cs) (hc : c.index = idx) : Sorted (cs.take (place cs idx) ++ c :: cs.drop (place cs idx)) := by
  have hle := place_le cs idx
  intro i j p q hp hq hij
  have hlo : ∀ (j : Nat) (p : Call), cs[j]? = some p → j < place cs idx → p.index ≤ idx := place_lo idx cs
  have hhi : ∀ (j : Nat) (p : Call), cs[j]? = some p → place cs idx ≤ j → idx < p.index := place_hi idx cs hs
  have hk : (cs.take (place cs idx)).length = place cs idx := by rw [List.length_take]; omega
  -- where an element of the new list comes from
  have from_ : ∀ (i : Nat) (p : Call), (cs.take (place cs idx) ++ c :: cs.drop (place cs idx))[i]? = some p →
      (i < place cs idx ∧ cs[i]? = some p) ∨ (i = place cs idx ∧ p = c) ∨ (place cs idx < i ∧ cs[i - 1]? = some p) := by
    intro i p h
    rw [List.getElem?_append, hk] at h
    split at h
    · rename_i hlt
      rw [List.getElem?_take, if_pos hlt] at h
      exact .inl ⟨hlt, h⟩
    · rename_i hge
      rw [List.getElem?_cons] at h
      split at h
      · rename_i h0
        exact .inr (.inl ⟨by omega, by simpa using h.symm⟩)
      · rename_i h0
        rw [List.getElem?_drop] at h
        exact .inr (.inr ⟨by omega, by rwa [show place cs idx + (i - place cs idx - 1) = i - 1 by omega] at h⟩)
  rcases from_ i p hp with ⟨h1, h2⟩ | ⟨h1, h2⟩ | ⟨h1, h2⟩ <;> rcases from_ j q hq with ⟨g1, g2⟩ | ⟨g1, g2⟩ | ⟨g1, g2⟩
  · exact hs i j p q h2 g2 hij
  · have := hlo i p h2 h1; rw [g2, hc]; exact this
  · exact hs i (j - 1) p q h2 g2 (by omega)
  · omega
  · rw [h2, g2]; exact Int.le_refl _
  · have := hhi (j - 1) q g2 (by omega); rw [h2, hc]; omega
  · omega
  · omega
  · exact hs (i - 1) (j - 1) p q h2 g2 (by omega)

/-- a fragment without index and id continues the latest call, where there is one -/
theorem cont_bare {s : St} {f : Frag} (hs : Sorted s.calls) {b : Nat} {p : Call} (hl : s.latest = some (b, p.index)) (hp : p ∈ s.calls) (h1 : ¬ f.has = true) (h2 : emp f.id = true) : ∃ c, cont s f = some c := by
  have hr : resolve s f = p.index := by unfold resolve; rw [if_neg h1, hl]
  obtain ⟨j, hj⟩ := List.getElem?_of_mem hp
  have hlt : j < place s.calls p.index := by
    rcases Nat.lt_or_ge j (place s.calls p.index) with h | h
    · exact h
    · have := place_hi p.index s.calls hs j p hj h; omega
  have hle := place_le s.calls p.index
  unfold cont
  rw [hr]
  obtain ⟨k, hk⟩ : ∃ k, place s.calls p.index = k + 1 := ⟨place s.calls p.index - 1, by omega⟩
  rw [hk]
  obtain ⟨c, hc⟩ : ∃ c, s.calls[k]? = some c := ⟨_, List.getElem?_eq_getElem (by omega)⟩
  simp only [hc]
  have e1 := place_lo p.index s.calls k c hc (by omega)
  have e2 := hs j k p c hj hc (by omega)
  exact ⟨c, if_pos ⟨by omega, .inl h2⟩⟩

theorem fsum_append (a : List Frag) (f : Frag) : fsum (a ++ [f]) = fsum a + f.args.size := by simp [fsum]

/-- ONE FRAGMENT MORE. -/
theorem Good.step {fs : List Frag} {s : St} (h : Good fs s) {N : Nat} (f : Frag) (hn : (s.calls.map Call.blk).Nodup) (hN : ∀ q ∈ s.calls, q.blk ≠ N) : Good (fs ++ [f]) (addF N s f) := by
  rcases add_cases f hn hN with ⟨pre, p, post, e1, e2, e3, e4⟩ | ⟨pre, post, e1, e5, e6, e2, e3, e4, e7⟩
  · -- it joins p
    have hmap : s.calls.map (·.index) = (addF N s f).calls.map (·.index) := by rw [e1, e2]; simp [fin_index]
    have hx : ∀ x, ¬ emp x = true → cnt (addF N s f).calls x = if x = f.id then 1 else cnt s.calls x := by
      intro x hx
      rw [e1, e2, cnt_append, cnt_append, cnt_cons, cnt_cons, fin_id]
      rcases e4 with ⟨h1, h2⟩ | ⟨h1, h2, h3⟩
      · have hpe : ¬ emp p.id = true := by rw [h2]; exact h1
        rw [if_neg hpe]
        by_cases e : x = f.id
        · subst e
          rw [if_pos rfl]
          have hu := h.uniq f.id h1
          rw [e1, cnt_append, cnt_cons, if_pos h2] at hu
          rw [if_pos h2]
          omega
        · rw [if_neg e]
      · by_cases e : x = f.id
        · subst e
          have h0 := byId_none_cnt h1 hx
          rw [e1, cnt_append, cnt_cons] at h0
          rcases h2 with h2 | h2
          · exact absurd h2 hx
          · rw [if_pos h2, if_pos rfl, if_pos rfl]
            omega
        · rw [if_neg e]
          by_cases hpe : emp p.id = true
          · rw [if_pos hpe, if_neg (fun y => e y.symm), if_neg (fun y : p.id = x => hx (y ▸ hpe))]
          · rw [if_neg hpe]
    refine ⟨sorted_of_map hmap h.sorted, ?_, fun _ => by rw [e2]; simp, fun _ => ?_, fun x hxe => ?_, fun g hg hge => ?_, ?_⟩
    · have := h.count
      rw [e1] at this
      rw [e2]
      simp at this ⊢
      omega
    · obtain ⟨b, q, h1, h2⟩ := h.lat (by rw [e1]; simp)
      rw [e1, List.mem_append, List.mem_cons] at h2
      rcases h2 with h2 | rfl | h2
      · exact ⟨b, q, by rw [e3, h1], by rw [e2]; simp [h2]⟩
      · exact ⟨b, fin f q, by rw [e3, h1]; rfl, by rw [e2]; simp⟩
      · exact ⟨b, q, by rw [e3, h1], by rw [e2]; simp [h2]⟩
    · rw [hx x hxe]
      split
      · exact Nat.le_refl _
      · exact h.uniq x hxe
    · rw [hx g.id hge]
      split
      · rfl
      · rename_i hne
        rcases List.mem_append.1 hg with hg | hg
        · exact h.ids g hg hge
        · simp at hg; subst hg; exact absurd rfl hne
    · have := h.sum
      rw [e1, asum_append, asum_cons] at this
      rw [e2, asum_append, asum_cons, fin_args, ByteArray.size_append, fsum_append]
      omega
  · -- it begins a call
    have hx : ∀ x, ¬ emp x = true → cnt (addF N s f).calls x = if x = f.id then 1 else cnt s.calls x := by
      intro x hx
      rw [e2, cnt_append, cnt_cons, fin_id, if_pos (show emp (freshCall N (resolve s f)).id = true from emp_nil)]
      have hc : cnt s.calls x = cnt pre x + cnt post x := by rw [e1, cnt_append]
      by_cases e : x = f.id
      · subst e
        have h0 := byId_none_cnt e4 hx
        rw [if_pos rfl, if_pos rfl]
        omega
      · rw [if_neg e, if_neg (fun y => e y.symm)]
        omega
    refine ⟨?_, ?_, fun _ => by rw [e2]; simp, fun _ => ?_, fun x hxe => ?_, fun g hg hge => ?_, ?_⟩
    · rw [e2, e5, e6]
      exact sorted_insert h.sorted rfl
    · have := h.count
      rw [e1] at this
      rw [e2]
      simp at this ⊢
      omega
    · exact ⟨N, fin f (freshCall N (resolve s f)), by rw [e3]; rfl, by rw [e2]; simp⟩
    · rw [hx x hxe]
      split
      · exact Nat.le_refl _
      · exact h.uniq x hxe
    · rw [hx g.id hge]
      split
      · rfl
      · rename_i hne
        rcases List.mem_append.1 hg with hg | hg
        · exact h.ids g hg hge
        · simp at hg; subst hg; exact absurd rfl hne
    · have := h.sum
      rw [e1, asum_append] at this
      rw [e2, asum_append, asum_cons, fin_args, ByteArray.size_append, fsum_append]
      have h0 : (freshCall N (resolve s f)).args.size = 0 := rfl
      omega

/-- how many calls there are behind a fragment -/
theorem add_length {fs : List Frag} {s : St} (h : Good fs s) {N : Nat} (f : Frag) (hn : (s.calls.map Call.blk).Nodup) (hN : ∀ q ∈ s.calls, q.blk ≠ N) :
    (addF N s f).calls.length = s.calls.length ∨
    ((addF N s f).calls.length = s.calls.length + 1 ∧ ((∃ g ∈ fs, g.id = f.id) → emp f.id = true) ∧ (s.calls ≠ [] → ¬ f.has = true → ¬ emp f.id = true)) := by
  rcases add_cases f hn hN with ⟨pre, p, post, e1, e2, _, _⟩ | ⟨pre, post, e1, e5, e6, e2, e3, e4, e7⟩
  · left
    rw [e1, e2]; simp
  · right
    refine ⟨by rw [e1, e2]; simp; omega, ?_, ?_⟩
    · rintro ⟨g, hg, hid⟩
      by_cases he : emp f.id = true
      · exact he
      · have := h.ids g hg (by rw [hid]; exact he)
        rw [hid] at this
        exact absurd e4 (cnt_byId he this)
    · intro hne hh he
      obtain ⟨b, p, hl, hp⟩ := h.lat hne
      obtain ⟨c, hc⟩ := cont_bare h.sorted hl hp hh he
      rw [hc] at e7; cases e7

end Go.Proofs.Qxb6600954a
