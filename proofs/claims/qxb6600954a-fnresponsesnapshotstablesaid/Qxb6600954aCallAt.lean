/-
  Seat b6600954a: (*assembly).callAt (function 40), way by way, in terms of cells.
-/
import Derived.Test.Qxb6600954aLeaf1
import Derived.Test.Qxb6600954aInsert
import Derived.Test.Qxb6600954aSearch
import Derived.BigQuiet
import Derived.Deep.QuietTactic
namespace Go.Proofs.Qxb6600954a
open Go.RowKit

theorem place_unique {ps : List (Nat × Int)} {idx : Int} {k k' : Nat} (h : IsPlace ps idx k) (h' : IsPlace ps idx k') : k = k' := by
  obtain ⟨h1, h2, h3⟩ := h
  obtain ⟨g1, g2, g3⟩ := h'
  rcases Nat.lt_trichotomy k k' with hlt | he | hlt
  · have := h3 k _ (List.getElem?_eq_getElem (by omega)) (Nat.le_refl _)
    have := g2 k _ (List.getElem?_eq_getElem (by omega)) hlt
    omega
  · exact he
  · have := g3 k' _ (List.getElem?_eq_getElem (by omega)) (Nat.le_refl _)
    have := h2 k' _ (List.getElem?_eq_getElem (by omega)) hlt
    omega

/-- the calls' slice, as the search sees it -/
def IsPtrs (w : World) (cv : Value) (ps : List (Nat × Int)) : Prop :=
  (cv = .slice none 0 0 ∧ ps = []) ∨ ∃ g cap, cv = .slice (some ⟨g, 0, none⟩) ps.length cap ∧ g < w.heap.size ∧ PtrRow w g ps

theorem search_at (k : Nat) (cv : Value) (ps : List (Nat × Int)) (idx : Int) (w : World) (hr : IsPtrs w cv ps) (hs : SortedIdx ps) (hn : ps.length ≤ 1000000) (hk : IsPlace ps idx k) :
    Calls Try.prog 42 #[cv, .int .i64 idx, .func (.func 43) #[] #[]] w fun e w' => e = .returned (.tuple #[.int .i64 k, .bool false]) ∧ w' = w := by
  rcases hr with ⟨rfl, rfl⟩ | ⟨g, cap, rfl, _, hr⟩
  · refine (search_none idx w).mono ?_
    rintro e w' ⟨k', rfl, hk', rfl⟩
    rw [place_unique hk hk']
    exact ⟨rfl, rfl⟩
  · refine (search_some g cap ps idx w hr hs hn).mono ?_
    rintro e w' ⟨k', rfl, hk', rfl⟩
    rw [place_unique hk hk']
    exact ⟨rfl, rfl⟩

theorem IsPtrs.alloc {w : World} {cv : Value} {ps : List (Nat × Int)} (h : IsPtrs w cv ps) (o : Obj) : IsPtrs (w.alloc o) cv ps := by
  rcases h with h | ⟨g, cap, h1, h2, h3⟩
  · exact .inl h
  · refine .inr ⟨g, cap, h1, by simp; omega, fun j p hp => ?_⟩
    obtain ⟨c0, c1⟩ := h3 j p hp
    exact ⟨by rw [World.cell?_alloc_lt _ _ _ (World.block_lt_of_cell? _ _ c0)]; exact c0, by rw [World.cell?_alloc_lt _ _ _ (World.block_lt_of_cell? _ _ c1)]; exact c1⟩

/-- which index the fragment resolves to, as the walk sees it -/
def Resolves (w : World) (f : Frag) (lat : Option Addr) (idx : Int) : Prop :=
  (f.has = true ∧ f.index = idx) ∨ (f.has = false ∧ lat = none ∧ idx = 0) ∨ (f.has = false ∧ ∃ lb, lat = some ⟨lb, 0, none⟩ ∧ lb < w.heap.size ∧ w.cell? ⟨lb, 0, none⟩ = some (.int .i64 idx))

set_option maxRecDepth 100000 in
set_option maxHeartbeats 2000000 in
theorem callAt_cont (A : Nat) (f : Frag) (w : World) (cv : Value) (ps : List (Nat × Int)) (lat : Option Addr) (idx : Int) (k : Nat) (p : Nat × Int) (id : ByteArray)
   (h8 : w.cell? ⟨A, 8, none⟩ = some cv) (h10 : w.cell? ⟨A, 10, none⟩ = some (.pointer lat)) (hA : A < w.heap.size) (hres : Resolves w f lat idx) (hn : ps.length ≤ 100000)
   (hr : IsPtrs w cv ps) (hs : SortedIdx ps) (hk : IsPlace ps idx (k + 1)) (hp : ps[k]? = some p) (hpi : p.2 = idx) (hpl : p.1 < w.heap.size) (hid : w.cell? ⟨p.1, 1, none⟩ = some (.string id))
   (hcond : f.id.toList.isEmpty = true ∨ (f.id.toList.isEmpty = false ∧ id.toList.isEmpty = true)) :
    Calls Try.prog 40 #[.pointer (some ⟨A, 0, none⟩), .agg f.cells] w fun e w' => e = .returned (.pointer (some ⟨p.1, 0, none⟩)) ∧ w' = w.alloc (.cells f.cells 34) := by
  have hsr := search_at (k + 1) cv ps idx (w.alloc (.cells f.cells 34)) (hr.alloc _) hs (by omega) hk
  obtain ⟨hk1, -, -⟩ := hk
  have hkn : k < ps.length := (List.getElem?_eq_some_iff.1 hp).1
  rcases hr with ⟨rfl, rfl⟩ | ⟨g, cap, rfl, hg, hr⟩
  · simp at hp
  obtain ⟨c0, c1⟩ := hr k p hp
  obtain ⟨pb, pi⟩ := p
  simp only at hpi c0 c1 hpl hid ⊢
  subst hpi
  have HS := hsr
  clear hp hsr hr
  rcases hres with ⟨h1, h2⟩ | ⟨h1, rfl, rfl⟩ | ⟨h1, lb, rfl, hlb, h2⟩
  all_goals rcases hcond with hc | ⟨hc, hc2⟩
  all_goals
    go_enter Try.func40, Try.ntmps40
    go_wp2_with (go_at_call 42; refine HS.mono ?_; rintro e w' ⟨rfl, rfl⟩)
    go_ret
    exact ⟨rfl, rfl⟩

/-- the world when a new call is laid: the fragment's box, the call, the one-element slice -/
abbrev world3 (w : World) (f : Frag) (idx : Int) : World :=
  ((w.alloc (.cells f.cells 34)).alloc (.cells #[.int .i64 idx, .string ⟨#[]⟩, .string ⟨#[]⟩, .slice none 0 0] 84)).alloc (.cells #[.pointer (some ⟨w.heap.size + 1, 0, none⟩)] 57)

def NewPost (B A : Nat) (f : Frag) (idx : Int) (k n : Nat) (xs : List Value) (cv : Value) (w : World) (e : Ending) (w' : World) : Prop :=
  ∃ v' w4, e = .returned (.pointer (some ⟨w.heap.size + 1, 0, none⟩)) ∧ w4.ownsRow B 57 1 v' (n + 1) (xs.take k ++ .pointer (some ⟨w.heap.size + 1, 0, none⟩) :: xs.drop k) ∧ (world3 w f idx).grownBy w4 cv.ownBlock ∧ FreshRow (world3 w f idx) cv v' ∧
    w' = (w4.setCell ⟨A, 8, none⟩ v').setCell ⟨A, 10, none⟩ (.pointer (some ⟨w.heap.size + 1, 0, none⟩))

theorem hide3 {p q r : Prop} (h : p) (h' : q) (h'' : r) : Hid (p ∧ q ∧ r) := ⟨h, h', h''⟩

theorem ownsRow_some {w : World} {B : Nat} {v : Value} {n : Nat} {xs : List Value} (h : w.ownsRow B 57 1 v (n + 1) xs) : ∃ g cap, v = .slice (some ⟨g, 0, none⟩) (n + 1) cap := by
  rcases h.2 with ⟨_, h⟩ | ⟨g, cap, _, h, _⟩
  · omega
  · exact ⟨g, cap, h⟩

set_option maxRecDepth 100000 in
set_option maxHeartbeats 2000000 in
theorem callAt_new (B A : Nat) (f : Frag) (w : World) (cv : Value) (ps : List (Nat × Int)) (lat : Option Addr) (idx : Int) (k : Nat) (arr : Array Value)
   (hAb : w.heap[A]? = some (.cells arr 79)) (h8 : arr[8]? = some cv) (h10 : arr[10]? = some (.pointer lat)) (hres : Resolves w f lat idx) (hn : ps.length ≤ 100000)
   (hr : IsPtrs w cv ps) (hs : SortedIdx ps) (hk : IsPlace ps idx k) (hB : B ≤ w.heap.size) (hown : w.ownsRow B 57 1 cv ps.length (ps.map fun p => .pointer (some ⟨p.1, 0, none⟩))) (hcA : cv.ownBlock ≠ some A)
   (hcond : k = 0 ∨ ∃ p id, ps[k - 1]? = some p ∧ p.1 < w.heap.size ∧ w.cell? ⟨p.1, 1, none⟩ = some (.string id) ∧ 0 < k ∧ ((p.2 == idx) = false ∨ ((p.2 == idx) = true ∧ f.id.toList.isEmpty = false ∧ id.toList.isEmpty = false))) :
    Calls Try.prog 40 #[.pointer (some ⟨A, 0, none⟩), .agg f.cells] w (NewPost B A f idx k ps.length (ps.map fun p => .pointer (some ⟨p.1, 0, none⟩)) cv w) := by
  have hA : A < w.heap.size := (Array.getElem?_eq_some_iff.1 hAb).1
  have hc8 : w.cell? ⟨A, 8, none⟩ = some cv := by simp [World.cell?, hAb, h8]
  have hc10 : w.cell? ⟨A, 10, none⟩ = some (.pointer lat) := by simp [World.cell?, hAb, h10]
  have hsr := search_at k cv ps idx (w.alloc (.cells f.cells 34)) (hr.alloc _) hs (by omega) hk
  have hin := insert_any B ps.length k (w.heap.size + 1 + 1) _ (.pointer (some ⟨w.heap.size + 1, 0, none⟩)) cv (world3 w f idx) (((hown.alloc _).alloc _).alloc _) (by simp; omega) (by omega) hk.1 (by simp; intros; subst_vars; rfl)
    (by have := heap_alloc_new ((w.alloc (.cells f.cells 34)).alloc (.cells #[.int .i64 idx, .string ⟨#[]⟩, .string ⟨#[]⟩, .slice none 0 0] 84)) (.cells #[.pointer (some ⟨w.heap.size + 1, 0, none⟩)] 57); simpa using this) rfl
    (fun e => by have := hown.lt _ e; omega)
  have HB : ∀ v w4, (world3 w f idx).grownBy w4 cv.ownBlock → w4.cell? ⟨A, 8, none⟩ = some cv ∧ w4.frozen? ⟨A, 8, none⟩ = false ∧ w4.cell? ⟨A, 10, none⟩ = some (.pointer lat) ∧ w4.frozen? ⟨A, 10, none⟩ = false ∧ (w4.setCell ⟨A, 8, none⟩ v).cell? ⟨A, 10, none⟩ = some (.pointer lat) := by
    intro v w4 hg
    have hb : w4.heap[A]? = some (.cells arr 79) := by
      rw [hg.block A (by simp [world3]; omega) (fun e => hcA e.symm), Below.heap_alloc _ _ _ (by simp; omega), Below.heap_alloc _ _ _ (by simp; omega), Below.heap_alloc _ _ _ hA, hAb]
    have e10 : w4.cell? ⟨A, 10, none⟩ = some (.pointer lat) := by simp [World.cell?, hb, h10]
    exact ⟨by simp [World.cell?, hb, h8], by simp [World.frozen?, hb], e10, by simp [World.frozen?, hb], by rw [World.cell?_setCell_other _ _ _ _ (by simp)]; exact e10⟩
  obtain ⟨hk1, -, -⟩ := hk
  rcases hcond with rfl | ⟨p, id, hp, hpl, hid, hk0, hor⟩
  · rcases hr with ⟨rfl, rfl⟩ | ⟨g, cap, rfl, hg, hr⟩
    all_goals clear hown
    all_goals rcases hres with ⟨h1, h2⟩ | ⟨h1, rfl, rfl⟩ | ⟨h1, lb, rfl, hlb, h2⟩
    all_goals try subst h2
    all_goals
      go_enter Try.func40, Try.ntmps40
      go_wp2_with (first
        | (go_at_call 42; refine hsr.mono ?_; rintro e w' ⟨rfl, rfl⟩)
        | (go_at_call 44; refine hin.mono ?_; rintro e w4 ⟨v', rfl, ho, hgr, hfr⟩; have HO := hide3 ho hgr hfr; obtain ⟨q1, q2, q3, q4, q5⟩ := HB v' w4 hgr; obtain ⟨g', cap', rfl⟩ := ownsRow_some ho; clear ho hgr hfr))
      go_ret
      obtain ⟨ho, hgr, hfr⟩ := HO.out
      exact ⟨_, w4, rfl, ho, hgr, hfr, rfl⟩
  · obtain ⟨m, rfl⟩ : ∃ m, k = m + 1 := ⟨k - 1, by omega⟩
    rw [Nat.add_sub_cancel] at hp
    have hkn : m < ps.length := (List.getElem?_eq_some_iff.1 hp).1
    rcases hr with ⟨rfl, rfl⟩ | ⟨g, cap, rfl, hg, hr⟩
    · simp at hp
    obtain ⟨c0, c1⟩ := hr m p hp
    obtain ⟨pb, pi⟩ := p
    simp only at c0 c1 hpl hid hor
    clear hp hr hown
    rcases hor with ho1 | ⟨ho1, ho2, ho3⟩
    all_goals rcases hres with ⟨h1, h2⟩ | ⟨h1, rfl, rfl⟩ | ⟨h1, lb, rfl, hlb, h2⟩
    all_goals try subst h2
    all_goals
      go_enter Try.func40, Try.ntmps40
      go_wp2_with (first
        | (go_at_call 42; refine hsr.mono ?_; rintro e w' ⟨rfl, rfl⟩)
        | (go_at_call 44; refine hin.mono ?_; rintro e w4 ⟨v', rfl, ho, hgr, hfr⟩; have HO := hide3 ho hgr hfr; obtain ⟨q1, q2, q3, q4, q5⟩ := HB v' w4 hgr; obtain ⟨g', cap', rfl⟩ := ownsRow_some ho; clear ho hgr hfr))
      go_ret
      obtain ⟨ho, hgr, hfr⟩ := HO.out
      exact ⟨_, w4, rfl, ho, hgr, hfr, rfl⟩

end Go.Proofs.Qxb6600954a
