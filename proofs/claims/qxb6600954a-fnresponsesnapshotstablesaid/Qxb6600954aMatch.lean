/-
  Seat b6600954a: the plain law of laws 3 and 4: the assembly's calls are the model's calls, stably sorted by index.
-/
import Derived.Test.Qxb6600954aMWalk
import Derived.Test.Qxb6600954aGood
import Derived.Test.Qxb6600954aOrd
namespace Go.Proofs.Qxb6600954a

/-- no call among the first k bears the id -/
def NoId (cs : List MC) (id : ByteArray) (k : Nat) : Prop := ∀ j c, j < k → cs[j]? = some c → (c.id.toList == id.toList) = false

/-- the place of the first call with the fragment's id, or -1 -/
def MFound (cs : List MC) (id : ByteArray) (r : Int) : Prop :=
  (r = -1 ∧ (emp id = true ∨ NoId cs id cs.length)) ∨ ∃ j c, r = (j : Nat) ∧ emp id = false ∧ cs[j]? = some c ∧ (c.id.toList == id.toList) = true ∧ NoId cs id j

/-- where the fragment goes: call k of state s1 -/
def MPick (s : MSt) (f : Frag) (k : Nat) (s1 : MSt) : Prop :=
  (MFound s.calls f.id k ∧ s1 = s) ∨
  (MFound s.calls f.id (-1) ∧ ((∃ c, mLastTo s.calls (mResolve s f) s.calls.length = k ∧ s.calls[k]? = some c ∧ (emp f.id = true ∨ emp c.id = true) ∧ s1 = s) ∨
    ((mLastTo s.calls (mResolve s f) s.calls.length < 0 ∨ ∃ (j : Nat) (c : MC), mLastTo s.calls (mResolve s f) s.calls.length = j ∧ s.calls[j]? = some c ∧ emp f.id = false ∧ emp c.id = false) ∧ k = s.calls.length ∧ s1 = s.begin (mResolve s f))))

/-- what the fragment gives to its call -/
def mTouch (f : Frag) (c : MC) : MC := { c with id := if emp c.id = true then f.id else c.id, name := if emp c.name = true then f.name else c.name, args := c.args ++ f.args }

def core (p : Call) : MC := ⟨p.index, p.id, p.name, p.args⟩
def cget (cs : List MC) (k : Nat) : MC := cs[k]?.getD (freshMC 0)
def mix (cs : List MC) (k : Nat) : Int := (cget cs k).index
def MSt.ord (ms : MSt) : List Nat := ordK (mix ms.calls) ms.calls.length

theorem core_fin (f : Frag) (p : Call) : core (fin f p) = mTouch f (core p) := rfl

theorem cget_of {cs : List MC} {k : Nat} {c : MC} (h : cs[k]? = some c) : cget cs k = c := by unfold cget; rw [h]; rfl
theorem get_cget {cs : List MC} {k : Nat} (h : k < cs.length) : cs[k]? = some (cget cs k) := by unfold cget; rw [List.getElem?_eq_getElem h]; rfl

structure Match (s : St) (ms : MSt) : Prop where
  calls : s.calls.map core = ms.ord.map (cget ms.calls)
  res : ∀ f, mResolve ms f = resolve s f

theorem Match.length {s : St} {ms : MSt} (h : Match s ms) : s.calls.length = ms.calls.length := by
  have := congrArg List.length h.calls
  simpa [MSt.ord, ordK_length] using this

theorem Match.at {s : St} {ms : MSt} (h : Match s ms) {i : Nat} {p : Call} (hp : s.calls[i]? = some p) : ∃ k, ms.ord[i]? = some k ∧ ms.calls[k]? = some (core p) := by
  have e : (s.calls.map core)[i]? = some (core p) := by rw [List.getElem?_map, hp]; rfl
  rw [h.calls, List.getElem?_map, Option.map_eq_some_iff] at e
  obtain ⟨k, hk, e⟩ := e
  have hlt : k < ms.calls.length := (ordK_mem _ _ _).1 (List.mem_of_getElem? hk)
  exact ⟨k, hk, by rw [get_cget hlt, e]⟩

theorem Match.of {s : St} {ms : MSt} (h : Match s ms) {k : Nat} {c : MC} (hc : ms.calls[k]? = some c) : ∃ (i : Nat) (p : Call), ms.ord[i]? = some k ∧ s.calls[i]? = some p ∧ core p = c := by
  have hlt : k < ms.calls.length := (List.getElem?_eq_some_iff.1 hc).1
  obtain ⟨i, hi⟩ := List.getElem?_of_mem ((ordK_mem (mix ms.calls) _ _).2 hlt)
  have e : (ms.ord.map (cget ms.calls))[i]? = some c := by rw [List.getElem?_map]; show (ms.ord[i]?).map _ = _; unfold MSt.ord; rw [hi]; simp [cget_of hc]
  rw [← h.calls, List.getElem?_map, Option.map_eq_some_iff] at e
  obtain ⟨p, hp, e⟩ := e
  exact ⟨i, p, hi, hp, e⟩

theorem mLastTo_neg (cs : List MC) (idx : Int) : ∀ n, mLastTo cs idx n < 0 → ∀ j c, j < n → cs[j]? = some c → c.index ≠ idx
  | 0, _, j, c, hj, _ => by omega
  | n + 1, h, j, c, hj, hc => by
    unfold mLastTo at h
    split at h
    · omega
    · rename_i hne
      rcases Nat.lt_succ_iff_lt_or_eq.1 hj with h1 | h1
      · exact mLastTo_neg cs idx n h j c h1 hc
      · subst h1
        intro e
        exact hne (by rw [hc]; simp [e])

theorem mLastTo_is (cs : List MC) (idx : Int) : ∀ (n k : Nat), mLastTo cs idx n = k → ∃ c, cs[k]? = some c ∧ c.index = idx ∧ ∀ j c', k < j → j < n → cs[j]? = some c' → c'.index ≠ idx
  | 0, k, h => by simp [mLastTo] at h
  | n + 1, k, h => by
    unfold mLastTo at h
    split at h
    · rename_i hy
      have e : n = k := by omega
      subst e
      rw [Option.map_eq_some_iff] at hy
      obtain ⟨c, h1, h2⟩ := hy
      exact ⟨c, h1, h2, fun j c' h3 h4 => by omega⟩
    · rename_i hne
      obtain ⟨c, h1, h2, h3⟩ := mLastTo_is cs idx n k h
      refine ⟨c, h1, h2, fun j c' h4 h5 h6 => ?_⟩
      rcases Nat.lt_succ_iff_lt_or_eq.1 h5 with h7 | h7
      · exact h3 j c' h4 h7 h6
      · subst h7
        intro e
        exact hne (by rw [h6]; simp [e])

/-- the last call of an index, in both orders -/
theorem Match.last {s : St} {ms : MSt} (h : Match s ms) (hs : Sorted s.calls) {idx : Int} {k : Nat} (hl : mLastTo ms.calls idx ms.calls.length = k) :
    ∃ i p, place s.calls idx = i + 1 ∧ s.calls[i]? = some p ∧ ms.ord[i]? = some k ∧ ms.calls[k]? = some (core p) ∧ p.index = idx := by
  obtain ⟨c, hc, hci, hmax⟩ := mLastTo_is ms.calls idx _ k hl
  obtain ⟨i, p, h1, h2, h3⟩ := h.of hc
  have hpi : p.index = idx := by rw [← hci, ← h3]; rfl
  have hle := place_le s.calls idx
  have hi : i < place s.calls idx := by
    rcases Nat.lt_or_ge i (place s.calls idx) with h | h
    · exact h
    · have := place_hi idx s.calls hs i p h2 h; omega
  obtain ⟨m, hm⟩ : ∃ m, place s.calls idx = m + 1 := ⟨place s.calls idx - 1, by omega⟩
  obtain ⟨q, hq⟩ : ∃ q, s.calls[m]? = some q := ⟨_, List.getElem?_eq_getElem (by omega)⟩
  have e1 := place_lo idx s.calls m q hq (by omega)
  have e2 := hs i m p q h2 hq (by omega)
  obtain ⟨k', g1, g2⟩ := h.at hq
  have hk' : k' < ms.calls.length := (ordK_mem _ _ _).1 (List.mem_of_getElem? g1)
  have hle' : k' ≤ k := by
    rcases Nat.lt_or_ge k k' with hlt | hge
    · exact absurd (by show q.index = idx; omega) (hmax k' _ hlt hk' g2)
    · exact hge
  have him : i = m := by
    rcases Nat.lt_or_ge i m with hlt | hge
    · have hx := ordK_lt h1 g1 hlt
      have i1 : mix ms.calls k = idx := by unfold mix; rw [cget_of hc, hci]
      have i2 : mix ms.calls k' = q.index := by unfold mix; rw [cget_of g2]; rfl
      rcases hx with hx | hx <;> omega
    · omega
  subst him
  exact ⟨i, p, hm, h2, h1, by rw [h3]; exact hc, hpi⟩

theorem cont_of {s : St} {f : Frag} {i : Nat} {p : Call} (hk : place s.calls (resolve s f) = i + 1) (hp : s.calls[i]? = some p) (hi : p.index = resolve s f) :
    cont s f = if emp f.id = true ∨ emp p.id = true then some p else none := by
  unfold cont
  rw [hk]
  simp only [hp, hi, true_and]

theorem set_mid {α : Type} (pre post : List α) (p q : α) : (pre ++ p :: post).set pre.length q = pre ++ q :: post := by
  induction pre with
  | nil => rfl
  | cons a l ih => simp [ih]

theorem put_cget {cs : List MC} {k m : Nat} {c : MC} (hk : k < cs.length) : cget (cs.set k c) m = if m = k then c else cget cs m := by
  unfold cget
  rw [List.getElem?_set]
  by_cases e : k = m
  · subst e; simp [hk]
  · rw [if_neg e, if_neg (fun x => e x.symm)]

/-- a call joined, in both -/
theorem Match.joined {s s' : St} {ms : MSt} (h : Match s ms) {f : Frag} {pre post : List Call} {p : Call} {k : Nat} (e1 : s.calls = pre ++ p :: post) (e2 : s'.calls = pre ++ fin f p :: post) (e3 : s'.latest = s.latest)
    (hk : ms.ord[pre.length]? = some k) (hc : ms.calls[k]? = some (core p)) : Match s' (ms.put k (mTouch f (core p))) := by
  have hlt : k < ms.calls.length := (List.getElem?_eq_some_iff.1 hc).1
  have hix : ∀ m, mix (ms.put k (mTouch f (core p))).calls m = mix ms.calls m := fun m => by
    unfold mix MSt.put
    rw [put_cget hlt]
    split
    · rename_i e; subst e; rw [cget_of hc]; rfl
    · rfl
  have hord : (ms.put k (mTouch f (core p))).ord = ms.ord := by
    unfold MSt.ord
    have hl : (ms.put k (mTouch f (core p))).calls.length = ms.calls.length := by simp [MSt.put]
    rw [hl]
    exact ordK_congr _ fun m _ => hix m
  refine ⟨?_, fun g => ?_⟩
  · rw [hord, e2, ← set_mid pre post p (fin f p), ← e1]
    apply List.ext_getElem?
    intro i
    rw [List.getElem?_map, List.getElem?_map, List.getElem?_set]
    by_cases e : pre.length = i
    · subst e
      have hi : pre.length < s.calls.length := by rw [e1]; simp
      rw [if_pos rfl, if_pos hi, hk]
      simp [MSt.put, put_cget hlt, core_fin]
    · rw [if_neg e]
      have hh := congrArg (fun l => l[i]?) h.calls
      simp only [List.getElem?_map] at hh
      rw [hh]
      cases ho : ms.ord[i]? with
      | none => rfl
      | some m =>
        have hne : m ≠ k := fun em => by
          subst em
          rcases Nat.lt_or_gt_of_ne e with h1 | h1
          · exact (ordK_lt hk ho h1).ne rfl
          · exact (ordK_lt ho hk h1).ne rfl
        simp [MSt.put, put_cget hlt, hne]
  · have hr := h.res g
    unfold mResolve resolve at hr ⊢
    rw [e3]
    split
    · rfl
    · rename_i hg
      rw [if_neg hg, if_neg hg] at hr
      rw [← hr]
      show (match (ms.calls.set k _)[ms.latest.toNat]? with | some c => if 0 ≤ ms.latest then c.index else 0 | none => 0) = _
      rw [List.getElem?_set]
      by_cases e : k = ms.latest.toNat
      · rw [if_pos e, ← e, hc, if_pos hlt]
        rfl
      · rw [if_neg e]
        rfl

theorem take_takeWhile {α : Type} (p : α → Bool) : ∀ l : List α, l.take (l.takeWhile p).length = l.takeWhile p ∧ l.drop (l.takeWhile p).length = l.dropWhile p
  | [] => ⟨rfl, rfl⟩
  | a :: l => by
    have ih := take_takeWhile p l
    by_cases ha : p a = true
    · simp [ha, ih.1, ih.2]
    · simp [ha]

theorem cget_append {cs : List MC} {c : MC} {m : Nat} (h : m < cs.length) : cget (cs ++ [c]) m = cget cs m := by unfold cget; rw [List.getElem?_append_left h]
theorem cget_end {cs : List MC} {c : MC} : cget (cs ++ [c]) cs.length = c := by unfold cget; simp

/-- a call begun, in both -/
theorem Match.begun {s s' : St} {ms : MSt} (h : Match s ms) {f : Frag} {N : Nat} {idx : Int}
    (e2 : s'.calls = s.calls.take (place s.calls idx) ++ fin f (freshCall N idx) :: s.calls.drop (place s.calls idx)) (e3 : s'.latest = some (N, idx)) :
    Match s' ((ms.begin idx).put ms.calls.length (mTouch f (freshMC idx))) := by
  have hcs : ((ms.begin idx).put ms.calls.length (mTouch f (freshMC idx))).calls = ms.calls ++ [mTouch f (freshMC idx)] := by
    show (ms.calls ++ [freshMC idx]).set ms.calls.length _ = _
    exact set_mid ms.calls [] _ _
  have hend : mix (ms.calls ++ [mTouch f (freshMC idx)]) ms.calls.length = idx := by unfold mix; rw [cget_end]; rfl
  have hix : ∀ m, m < ms.calls.length → mix (ms.calls ++ [mTouch f (freshMC idx)]) m = mix ms.calls m := fun m hm => by unfold mix; rw [cget_append hm]
  have hord : ordK (mix (ms.calls ++ [mTouch f (freshMC idx)])) ms.calls.length = ms.ord := ordK_congr _ hix
  have hmap : ms.ord.map (cget (ms.calls ++ [mTouch f (freshMC idx)])) = s.calls.map core := by
    rw [h.calls]
    refine List.map_congr_left fun m hm => cget_append ((ordK_mem _ _ _).1 hm)
  refine ⟨?_, fun g => ?_⟩
  · rw [MSt.ord, hcs, List.length_append, List.length_singleton, ordK, hord, insK, hend, List.map_append, List.map_cons, cget_end]
    have t1 : (ms.ord.takeWhile fun m => decide (mix (ms.calls ++ [mTouch f (freshMC idx)]) m ≤ idx)).map (cget (ms.calls ++ [mTouch f (freshMC idx)])) = (s.calls.takeWhile fun c => decide (c.index ≤ idx)).map core := by
      have a1 := @List.takeWhile_map _ _ (cget (ms.calls ++ [mTouch f (freshMC idx)])) (fun c : MC => decide (c.index ≤ idx)) ms.ord
      have a2 := @List.takeWhile_map _ _ core (fun c : MC => decide (c.index ≤ idx)) s.calls
      rw [hmap, a2] at a1
      exact a1.symm
    have t2 : (ms.ord.dropWhile fun m => decide (mix (ms.calls ++ [mTouch f (freshMC idx)]) m ≤ idx)).map (cget (ms.calls ++ [mTouch f (freshMC idx)])) = (s.calls.dropWhile fun c => decide (c.index ≤ idx)).map core := by
      have a1 := @List.dropWhile_map _ _ (cget (ms.calls ++ [mTouch f (freshMC idx)])) (fun c : MC => decide (c.index ≤ idx)) ms.ord
      have a2 := @List.dropWhile_map _ _ core (fun c : MC => decide (c.index ≤ idx)) s.calls
      rw [hmap, a2] at a1
      exact a1.symm
    rw [t1, t2, e2]
    have e := take_takeWhile (fun c : Call => decide (c.index ≤ idx)) s.calls
    unfold place
    rw [e.1, e.2, List.map_append, List.map_cons]
    rfl
  · unfold mResolve resolve
    rw [e3, hcs]
    split
    · rfl
    · show (match (ms.calls ++ [mTouch f (freshMC idx)])[((ms.calls.length : Nat) : Int).toNat]? with | some c => if (0 : Int) ≤ ((ms.calls.length : Nat) : Int) then c.index else 0 | none => 0) = idx
      simp [mTouch, freshMC]

theorem toList_eq_iff (a b : ByteArray) : (a.toList == b.toList) = true ↔ a = b := by
  rw [beq_iff_eq, ByteArray.toList_eq, ByteArray.toList_eq]
  constructor
  · intro h
    obtain ⟨⟨la⟩⟩ := a
    obtain ⟨⟨lb⟩⟩ := b
    simp at h
    rw [h]
  · rintro rfl; rfl

theorem cnt_two {cs : List Call} {x : ByteArray} : ∀ {i j : Nat} {p q : Call}, cs[i]? = some p → cs[j]? = some q → p.id = x → q.id = x → cnt cs x ≤ 1 → i = j := by
  induction cs with
  | nil => intro i j p q h; simp at h
  | cons c cs ih =>
    intro i j p q hp hq e1 e2 hc
    rw [cnt_cons] at hc
    have pos : ∀ {i : Nat} {p : Call}, cs[i]? = some p → p.id = x → 1 ≤ cnt cs x := fun {i p} hp e => List.countP_pos_iff.2 ⟨p, List.mem_of_getElem? hp, by simp [e]⟩
    cases i with
    | zero =>
      cases j with
      | zero => rfl
      | succ j =>
        simp at hp hq
        subst hp
        have := pos hq e2
        rw [if_pos e1] at hc
        omega
    | succ i =>
      cases j with
      | zero =>
        simp at hp hq
        subst hq
        have := pos hp e1
        rw [if_pos e2] at hc
        omega
      | succ j =>
        simp at hp hq
        rw [ih hp hq e1 e2 (by omega)]

/-- ONE FRAGMENT, in both. -/
theorem Match.step {fs : List Frag} {s : St} {ms ms1 : MSt} (h : Match s ms) (hg : Good fs s) {N : Nat} (f : Frag) (hn : (s.calls.map Call.blk).Nodup) (hN : ∀ q ∈ s.calls, q.blk ≠ N) {k : Nat} {c : MC}
    (hp : MPick ms f k ms1) (hc : ms1.calls[k]? = some c) : Match (addF N s f) (ms1.put k (mTouch f c)) := by
  have mid : ∀ (pre post : List Call) (p : Call), (pre ++ p :: post)[pre.length]? = some p := fun pre post p => by simp
  rcases hp with ⟨hf, rfl⟩ | ⟨hf, hrest⟩
  · -- by its id
    rcases hf with ⟨h1, _⟩ | ⟨j, d, hj, hne, hd, heq, _⟩
    · omega
    · have hkj : k = j := by omega
      subst hkj
      rw [hd] at hc
      obtain rfl : d = c := Option.some.inj hc
      have hde : d.id = f.id := (toList_eq_iff _ _).1 heq
      have hfe : ¬ emp f.id = true := by rw [hne]; simp
      obtain ⟨i, p, g1, g2, g3⟩ := h.of hd
      have hpid : p.id = f.id := by rw [← hde, ← g3]; rfl
      have hby : byId s f.id ≠ none := by
        unfold byId
        rw [if_neg hfe]
        intro hx
        rw [List.find?_eq_none] at hx
        exact hx p (List.mem_of_getElem? g2) (by simp [hpid])
      rcases add_cases f hn hN with ⟨pre, q, post, a1, a2, a3, a4⟩ | ⟨pre, post, a1, a5, a6, a2, a3, a4, a7⟩
      · rcases a4 with ⟨_, hq⟩ | ⟨hx, _⟩
        · have hqa : s.calls[pre.length]? = some q := by rw [a1]; exact mid _ _ _
          have hij := cnt_two hqa g2 hq hpid (hg.uniq f.id hfe)
          have hqp : q = p := by rw [hij, g2] at hqa; cases hqa; rfl
          subst hqp
          have := h.joined (f := f) a1 a2 a3 (by rw [hij]; exact g1) (by rw [g3]; exact hd)
          rwa [g3] at this
        · exact absurd hx hby
      · exact absurd a4 hby
  · have hnone : byId s f.id = none := by
      unfold byId
      split
      · rfl
      · rename_i hfe
        rcases hf with ⟨_, h1 | h1⟩ | ⟨j, d, hj, _⟩
        · exact absurd h1 hfe
        · rw [List.find?_eq_none]
          intro q hq hx
          obtain ⟨i, hi⟩ := List.getElem?_of_mem hq
          obtain ⟨m, m1, m2⟩ := h.at hi
          have := h1 m _ (List.getElem?_eq_some_iff.1 m2).1 m2
          have he : q.id = f.id := by simpa using hx
          have h2 : (core q).id = f.id := he
          rw [(toList_eq_iff _ _).2 h2] at this
          cases this
        · omega
    have hres := h.res f
    rcases hrest with ⟨d, hl, hd, hcond, rfl⟩ | ⟨hnew, rfl, rfl⟩
    · rw [hd] at hc
      cases hc
      rw [hres] at hl
      obtain ⟨i, p, g1, g2, g3, g4, g5⟩ := h.last hg.sorted hl
      rw [hd] at g4
      cases g4
      have hct := cont_of g1 g2 g5
      rw [if_pos (show emp f.id = true ∨ emp p.id = true from hcond)] at hct
      rcases add_cases f hn hN with ⟨pre, q, post, a1, a2, a3, a4⟩ | ⟨pre, post, a1, a5, a6, a2, a3, a4, a7⟩
      · rcases a4 with ⟨hfe, hq⟩ | ⟨_, _, hx⟩
        · exfalso
          unfold byId at hnone
          rw [if_neg hfe, List.find?_eq_none] at hnone
          exact hnone q (by rw [a1]; simp) (by simp [hq])
        · rw [hct] at hx
          cases hx
          have hqa : s.calls[pre.length]? = some p := by rw [a1]; exact mid _ _ _
          have hij : pre.length = i := by
            have hl1 : pre.length < (s.calls.map Call.blk).length := by rw [a1]; simp
            refine (List.getElem?_inj hl1 hn).1 ?_
            rw [List.getElem?_map, List.getElem?_map, hqa, g2]
          exact h.joined a1 a2 a3 (by rw [hij]; exact g3) hd
      · rw [hct] at a7; cases a7
    · have hct : cont s f = none := by
        rcases hnew with hneg | ⟨j, d, hl, hd, h1, h2⟩
        · cases hx : cont s f with
          | none => rfl
          | some q =>
            obtain ⟨q1, q2, _⟩ := cont_mem hx
            obtain ⟨i, hi⟩ := List.getElem?_of_mem q1
            obtain ⟨m, m1, m2⟩ := h.at hi
            have := mLastTo_neg _ _ _ hneg m _ (List.getElem?_eq_some_iff.1 m2).1 m2
            exact absurd (by show q.index = _; rw [q2, hres]) this
        · rw [hres] at hl
          obtain ⟨i, p, g1, g2, g3, g4, g5⟩ := h.last hg.sorted hl
          rw [hd] at g4
          cases g4
          rw [cont_of g1 g2 g5, if_neg (by rw [h1]; rintro (e | e); cases e; exact absurd (show emp (core p).id = true from e) (by rw [h2]; simp))]
      have hcn : c = freshMC (mResolve ms f) := by
        simp [MSt.begin] at hc
        exact hc.symm
      subst hcn
      rw [hres]
      rcases add_cases f hn hN with ⟨pre, q, post, a1, a2, a3, a4⟩ | ⟨pre, post, a1, a5, a6, a2, a3, a4, a7⟩
      · rcases a4 with ⟨hfe, hq⟩ | ⟨_, _, hx⟩
        · exfalso
          unfold byId at hnone
          rw [if_neg hfe, List.find?_eq_none] at hnone
          exact hnone q (by rw [a1]; simp) (by simp [hq])
        · rw [hct] at hx; cases hx
      · rw [a5, a6] at a2
        exact h.begun a2 a3

end Go.Proofs.Qxb6600954a
