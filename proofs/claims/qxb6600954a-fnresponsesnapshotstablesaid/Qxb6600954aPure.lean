/-
  Seat b6600954a: what addToolCall and callAt do, as plain functions on the state; and callAt's contract over it.
-/
import Derived.Test.Qxb6600954aState2
namespace Go.Proofs.Qxb6600954a
open Go.RowKit

abbrev emp (s : ByteArray) : Bool := s.toList.isEmpty

def resolve (s : St) (f : Frag) : Int := if f.has = true then f.index else match s.latest with | some x => x.2 | none => 0
def place (cs : List Call) (idx : Int) : Nat := (cs.takeWhile fun c => decide (c.index ≤ idx)).length
/-- the call that a fragment continues at its index -/
def cont (s : St) (f : Frag) : Option Call :=
  match place s.calls (resolve s f) with
  | 0 => none
  | k + 1 => match s.calls[k]? with
    | some c => if c.index = resolve s f ∧ (emp f.id = true ∨ emp c.id = true) then some c else none
    | none => none

def Sorted (cs : List Call) : Prop := ∀ (i j : Nat) (p q : Call), cs[i]? = some p → cs[j]? = some q → i ≤ j → p.index ≤ q.index

abbrev Call.key (p : Call) : Nat × Int := (p.blk, p.index)

theorem place_le (cs : List Call) (idx : Int) : place cs idx ≤ cs.length := (List.takeWhile_sublist _).length_le

theorem place_lo (idx : Int) : ∀ (cs : List Call) (j : Nat) (p : Call), cs[j]? = some p → j < place cs idx → p.index ≤ idx
  | [], j, p, h, _ => by simp at h
  | c :: cs, j, p, h, hj => by
    by_cases hc : c.index ≤ idx
    · cases j with
      | zero => simp at h; subst h; exact hc
      | succ j => exact place_lo idx cs j p (by simpa using h) (by simpa [place, hc] using hj)
    · simp [place, hc] at hj

theorem place_hi (idx : Int) : ∀ (cs : List Call), Sorted cs → ∀ (j : Nat) (p : Call), cs[j]? = some p → place cs idx ≤ j → idx < p.index
  | [], _, j, p, h, _ => by simp at h
  | c :: cs, hs, j, p, h, hj => by
    by_cases hc : c.index ≤ idx
    · cases j with
      | zero => simp [place, hc] at hj
      | succ j => exact place_hi idx cs (fun i j p q h1 h2 h3 => hs (i + 1) (j + 1) p q (by simpa using h1) (by simpa using h2) (by omega)) j p (by simpa using h) (by simpa [place, hc] using hj)
    · have := hs 0 j c p (by simp) h (Nat.zero_le _)
      omega

theorem sortedIdx_of {cs : List Call} (h : Sorted cs) : SortedIdx (cs.map Call.key) := by
  intro i j p q hp hq hij
  rw [List.getElem?_map, Option.map_eq_some_iff] at hp hq
  obtain ⟨a, ha, rfl⟩ := hp
  obtain ⟨b, hb, rfl⟩ := hq
  exact h i j a b ha hb hij

theorem isPlace_of {cs : List Call} (h : Sorted cs) (idx : Int) : IsPlace (cs.map Call.key) idx (place cs idx) := by
  refine ⟨by simpa using place_le cs idx, fun j p hp hj => ?_, fun j p hp hj => ?_⟩
  · rw [List.getElem?_map, Option.map_eq_some_iff] at hp
    obtain ⟨a, ha, rfl⟩ := hp
    exact place_lo idx cs j a ha hj
  · rw [List.getElem?_map, Option.map_eq_some_iff] at hp
    obtain ⟨a, ha, rfl⟩ := hp
    exact place_hi idx cs h j a ha hj

theorem Holds.ptrs {B A : Nat} {mo fi : ByteArray} {s : St} {ph : Phys} {w : World} (h : Holds B A mo fi s ph w) : IsPtrs w ph.cv (s.calls.map Call.key) := by
  have hrow := h.row
  have hn : s.calls.length = (s.calls.map Call.key).length := by simp
  rcases hrow.2 with ⟨h1, h2⟩ | ⟨g, cap, cur, h1, _, h2, h3, _, h4, h5⟩
  · exact .inl ⟨h1, by simpa using h2⟩
  · refine .inr ⟨g, cap, by rw [h1, hn], (Array.getElem?_eq_some_iff.1 h2).1, fun j p hp => ?_⟩
    rw [List.getElem?_map, Option.map_eq_some_iff] at hp
    obtain ⟨a, ha, rfl⟩ := hp
    refine ⟨?_, ?_⟩
    · have := hrow.cells (g := g) (by rw [h1]; rfl) j a.ptr (by rw [List.getElem?_map, ha]; rfl)
      rw [Addr.add_lit] at this
      simpa using this
    · have := h.call a (List.mem_of_getElem? ha)
      simp [World.cell?, this]

theorem Holds.resolves {B A : Nat} {mo fi : ByteArray} {s : St} {ph : Phys} {w : World} (h : Holds B A mo fi s ph w) (f : Frag) : Resolves w f (latPtr s.latest) (resolve s f) := by
  unfold Resolves resolve
  by_cases hh : f.has = true
  · exact .inl ⟨hh, by rw [if_pos hh]⟩
  · have hf : f.has = false := by simpa using hh
    rw [if_neg hh]
    cases hl : s.latest with
    | none => exact .inr (.inl ⟨hf, rfl, rfl⟩)
    | some x =>
      obtain ⟨b, i⟩ := x
      obtain ⟨p, hp, rfl, rfl⟩ := h.latest b i hl
      refine .inr (.inr ⟨hf, p.blk, rfl, (h.labs _ _ (h.labCall p hp)).2, ?_⟩)
      simp [World.cell?, h.call p hp]

theorem emp_false {s : ByteArray} (h : ¬ emp s = true) : s.toList.isEmpty = false := by
  cases hs : s.toList.isEmpty with
  | true => exact absurd hs h
  | false => rfl

/-- callAt, over the state -/
theorem callAt_any {B A : Nat} {mo fi : ByteArray} {s : St} {ph : Phys} {w : World} (h : Holds B A mo fi s ph w) (hs : Sorted s.calls) (hn : s.calls.length ≤ 100000) (f : Frag) :
    Calls Try.prog 40 #[.pointer (some ⟨A, 0, none⟩), .agg f.cells] w fun e w' =>
      (∃ c, cont s f = some c ∧ c ∈ s.calls ∧ e = .returned c.ptr ∧ w' = w.alloc (.cells f.cells 34)) ∨
      (cont s f = none ∧ ∃ ph', e = .returned (.pointer (some ⟨w.heap.size + 1, 0, none⟩)) ∧ Holds B A mo fi (s.insert (place s.calls (resolve s f)) (w.heap.size + 1) (resolve s f)) ph' w' ∧ Grows ph w ph' w' ∧ ph'.nm = ph.nm) := by
  have hA := h.labs _ _ h.labA
  have hB : B ≤ w.heap.size := by omega
  have hkl : (s.calls.map Call.key).length = s.calls.length := by simp
  have hpm : (s.calls.map Call.key).map (fun p => Value.pointer (some ⟨p.1, 0, none⟩)) = s.calls.map Call.ptr := by simp
  have hown : w.ownsRow B 57 1 ph.cv (s.calls.map Call.key).length ((s.calls.map Call.key).map fun p => .pointer (some ⟨p.1, 0, none⟩)) := by rw [hkl, hpm]; exact h.row
  have hcA : ph.cv.ownBlock ≠ some A := fun e => by have := h.labRow A e; rw [h.labA] at this; cases this
  have new : (place s.calls (resolve s f) = 0 ∨ ∃ p id, (s.calls.map Call.key)[place s.calls (resolve s f) - 1]? = some p ∧ p.1 < w.heap.size ∧ w.cell? ⟨p.1, 1, none⟩ = some (.string id) ∧ 0 < place s.calls (resolve s f) ∧
        ((p.2 == resolve s f) = false ∨ ((p.2 == resolve s f) = true ∧ f.id.toList.isEmpty = false ∧ id.toList.isEmpty = false))) → cont s f = none →
      Calls Try.prog 40 #[.pointer (some ⟨A, 0, none⟩), .agg f.cells] w fun e w' =>
      (∃ c, cont s f = some c ∧ c ∈ s.calls ∧ e = .returned c.ptr ∧ w' = w.alloc (.cells f.cells 34)) ∨
      (cont s f = none ∧ ∃ ph', e = .returned (.pointer (some ⟨w.heap.size + 1, 0, none⟩)) ∧ Holds B A mo fi (s.insert (place s.calls (resolve s f)) (w.heap.size + 1) (resolve s f)) ph' w' ∧ Grows ph w ph' w' ∧ ph'.nm = ph.nm) := by
    intro hcond hc
    refine (callAt_new B A f w ph.cv (s.calls.map Call.key) (latPtr s.latest) (resolve s f) (place s.calls (resolve s f)) _ h.asm rfl rfl (h.resolves f) (by omega) h.ptrs (sortedIdx_of hs) (isPlace_of hs _) hB hown hcA hcond).mono ?_
    intro e w' hN
    rw [hkl, hpm] at hN
    obtain ⟨ph', h1, h2, h3, h4⟩ := h.newCall (place_le _ _) hN
    exact .inr ⟨hc, ph', h1, h2, h3, h4⟩
  cases hk : place s.calls (resolve s f) with
  | zero =>
    have hc : cont s f = none := by unfold cont; rw [hk]
    have := new (.inl hk) hc
    rwa [hk] at this
  | succ k =>
    have hle := place_le s.calls (resolve s f)
    obtain ⟨c, hck⟩ : ∃ c, s.calls[k]? = some c := ⟨_, List.getElem?_eq_getElem (by omega)⟩
    have hcm : c ∈ s.calls := List.mem_of_getElem? hck
    have hcl := (h.labs _ _ (h.labCall c hcm)).2
    have hid : w.cell? ⟨c.blk, 1, none⟩ = some (.string c.id) := by simp [World.cell?, h.call c hcm]
    by_cases hcond : c.index = resolve s f ∧ (emp f.id = true ∨ emp c.id = true)
    · have hc : cont s f = some c := by unfold cont; rw [hk]; simp only [hck]; rw [if_pos hcond]
      refine (callAt_cont A f w ph.cv (s.calls.map Call.key) (latPtr s.latest) (resolve s f) k c.key c.id (by simp [World.cell?, h.asm]) (by simp [World.cell?, h.asm]) hA.2 (h.resolves f) (by omega) h.ptrs (sortedIdx_of hs)
        (by have := isPlace_of hs (resolve s f); rwa [hk] at this) (by rw [List.getElem?_map, hck]; rfl) hcond.1 hcl hid ?_).mono ?_
      · rcases hcond.2 with h1 | h1
        · exact .inl h1
        · by_cases h2 : emp f.id = true
          · exact .inl h2
          · exact .inr ⟨emp_false h2, h1⟩
      · rintro e w' ⟨rfl, rfl⟩
        exact .inl ⟨c, hc, hcm, rfl, rfl⟩
    · have hc : cont s f = none := by unfold cont; rw [hk]; simp only [hck]; rw [if_neg hcond]
      have := new (.inr ⟨c.key, c.id, by rw [hk, Nat.add_sub_cancel, List.getElem?_map, hck]; rfl, hcl, hid, by omega, ?_⟩) hc
      · rwa [hk] at this
      · by_cases h1 : c.index = resolve s f
        · refine .inr ⟨by simpa using h1, ?_, ?_⟩
          · exact emp_false fun h2 => hcond ⟨h1, .inl h2⟩
          · exact emp_false fun h2 => hcond ⟨h1, .inr h2⟩
        · exact .inl (by simpa using h1)


/-- callAt as a plain function: the state behind it, and the block of the call that it hands back (N: the block of a new call) -/
def atF (N : Nat) (s : St) (f : Frag) : St × Nat :=
  match cont s f with
  | some c => (s, c.blk)
  | none => (s.insert (place s.calls (resolve s f)) N (resolve s f), N)

theorem atF_cont {N : Nat} {s : St} {f : Frag} {c : Call} (h : cont s f = some c) : atF N s f = (s, c.blk) := by unfold atF; rw [h]
theorem atF_new {N : Nat} {s : St} {f : Frag} (h : cont s f = none) : atF N s f = (s.insert (place s.calls (resolve s f)) N (resolve s f), N) := by unfold atF; rw [h]

def AtPost (B A : Nat) (mo fi : ByteArray) (s : St) (f : Frag) (ph : Phys) (w : World) (e : Ending) (w' : World) : Prop :=
  ∃ N ph', e = .returned (.pointer (some ⟨(atF N s f).2, 0, none⟩)) ∧ w.heap.size ≤ N ∧ Holds B A mo fi (atF N s f).1 ph' w' ∧ Grows ph w ph' w' ∧ ph'.nm = ph.nm ∧ ∃ c ∈ (atF N s f).1.calls, c.blk = (atF N s f).2

theorem at_any {B A : Nat} {mo fi : ByteArray} {s : St} {ph : Phys} {w : World} (h : Holds B A mo fi s ph w) (hs : Sorted s.calls) (hn : s.calls.length ≤ 100000) (f : Frag) :
    Calls Try.prog 40 #[.pointer (some ⟨A, 0, none⟩), .agg f.cells] w (AtPost B A mo fi s f ph w) := by
  refine (callAt_any h hs hn f).mono ?_
  rintro e w' (⟨c, hc, hm, rfl, rfl⟩ | ⟨hc, ph', rfl, h1, h2, h3⟩)
  · exact ⟨w.heap.size, ph, by rw [atF_cont hc], Nat.le_refl _, by rw [atF_cont hc]; exact h.alloc _, Grows.alloc _ _ _, rfl, c, by rw [atF_cont hc]; exact hm, by rw [atF_cont hc]⟩
  · exact ⟨w.heap.size + 1, ph', by rw [atF_new hc], by omega, by rw [atF_new hc]; exact h1, h2, h3, freshCall (w.heap.size + 1) (resolve s f), by rw [atF_new hc]; simp [St.insert], by rw [atF_new hc]; rfl⟩

end Go.Proofs.Qxb6600954a
