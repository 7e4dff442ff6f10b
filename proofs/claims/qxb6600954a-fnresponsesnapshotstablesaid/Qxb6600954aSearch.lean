/-
  Seat b6600954a: slices.BinarySearchFunc at []*partialCall (function 42) with callAt's own comparison (43): the place just past the calls at or below the index.
-/
import Derived.Test.Qxb6600954aRows
import Derived.WalkKit
import Derived.WalkSpells
import Derived.WalkLawsBesides
namespace Go.Proofs.Qxb6600954a
open Go.RowKit

/-- a row of pointers to calls: block and index of each -/
def PtrRow (w : World) (g : Nat) (ps : List (Nat × Int)) : Prop :=
  ∀ j p, ps[j]? = some p → w.cell? ⟨g, j, none⟩ = some (.pointer (some ⟨p.1, 0, none⟩)) ∧ w.cell? ⟨p.1, 0, none⟩ = some (.int .i64 p.2)

set_option maxHeartbeats 400000 in
theorem cmp_le (b : Nat) (x idx : Int) (w : World) (h : w.cell? ⟨b, 0, none⟩ = some (.int .i64 x)) (hle : x ≤ idx) :
    Calls Try.prog 43 #[.pointer (some ⟨b, 0, none⟩), .int .i64 idx] w fun e w' => e = .returned (.int .i64 (-1)) ∧ w' = w := by
  go_enter Try.func43, Try.ntmps43
  go_wp2
  go_ret
  exact ⟨rfl, rfl⟩

set_option maxHeartbeats 400000 in
theorem cmp_gt (b : Nat) (x idx : Int) (w : World) (h : w.cell? ⟨b, 0, none⟩ = some (.int .i64 x)) (hle : idx < x) :
    Calls Try.prog 43 #[.pointer (some ⟨b, 0, none⟩), .int .i64 idx] w fun e w' => e = .returned (.int .i64 1) ∧ w' = w := by
  go_enter Try.func43, Try.ntmps43
  go_wp2
  go_ret
  exact ⟨rfl, rfl⟩

/-- k is the place just past the elements at or below idx -/
def IsPlace (ps : List (Nat × Int)) (idx : Int) (k : Nat) : Prop :=
  k ≤ ps.length ∧ (∀ j p, ps[j]? = some p → j < k → p.2 ≤ idx) ∧ (∀ j p, ps[j]? = some p → k ≤ j → idx < p.2)

def SearchPost (ps : List (Nat × Int)) (idx : Int) (w : World) (e : Ending) (w' : World) : Prop :=
  ∃ k : Nat, e = .returned (.tuple #[.int .i64 k, .bool false]) ∧ IsPlace ps idx k ∧ w' = w

def SortedIdx (ps : List (Nat × Int)) : Prop := ∀ (i j : Nat) (p q : Nat × Int), ps[i]? = some p → ps[j]? = some q → i ≤ j → p.2 ≤ q.2

set_option maxRecDepth 100000 in
set_option maxHeartbeats 1000000 in
theorem search_some (g cap : Nat) (ps : List (Nat × Int)) (idx : Int) (w : World) (hr : PtrRow w g ps) (hs : SortedIdx ps) (hn : ps.length ≤ 1000000) :
    Calls Try.prog 42 #[.slice (some ⟨g, 0, none⟩) ps.length cap, .int .i64 idx, .func (.func 43) #[] #[]] w (SearchPost ps idx w) := by
  go_enter Try.func42, Try.ntmps42
  go_wp2
  go_loop [9, 10] (fun i j => ∃ a b : Nat, i = .int .i64 a ∧ j = .int .i64 b ∧ a ≤ b ∧ b ≤ ps.length ∧ (∀ j p, ps[j]? = some p → j < a → p.2 ≤ idx) ∧ (∀ j p, ps[j]? = some p → b ≤ j → idx < p.2)) (fun i j => (intOf j).toNat - (intOf i).toNat)
  case atStart => exact ⟨0, ps.length, rfl, rfl, Nat.zero_le _, Nat.le_refl _, fun j p _ h => absurd h (Nat.not_lt_zero _), fun j p h h' => by rw [List.getElem?_eq_none h'] at h; cases h⟩
  case round =>
    obtain ⟨a, b, rfl, rfl, hab, hb, hlo, hhi⟩ := hrel
    have HLO : Hid (∀ j p, ps[j]? = some p → j < a → p.2 ≤ idx) := hlo
    have HHI : Hid (∀ j p, ps[j]? = some p → b ≤ j → idx < p.2) := hhi
    clear hlo hhi
    by_cases hlt : a < b
    · have hm : (a + b) / 2 < ps.length := by omega
      obtain ⟨p, hp⟩ : ∃ p, ps[(a + b) / 2]? = some p := ⟨_, List.getElem?_eq_getElem hm⟩
      obtain ⟨c0, c1⟩ := hr _ _ hp
      have HP : Hid (ps[(a + b) / 2]? = some p) := hp
      clear hp
      by_cases hle : p.2 ≤ idx
      · go_wp2_with (go_at_call 43; refine (cmp_le p.1 p.2 idx _ c1 hle).mono ?_; rintro e w' ⟨rfl, rfl⟩)
        go_round
        case rel =>
          exact ⟨(a + b) / 2 + 1, b, by go_num, rfl, by omega, hb, fun j q hq hj => Int.le_trans (hs j _ q p hq HP.out (by omega)) hle, HHI.out⟩
        case measure => simp [intOf]; omega
      · have hgt : idx < p.2 := by omega
        go_wp2_with (go_at_call 43; refine (cmp_gt p.1 p.2 idx _ c1 hgt).mono ?_; rintro e w' ⟨rfl, rfl⟩)
        go_round
        case rel =>
          exact ⟨a, (a + b) / 2, rfl, by go_num, by omega, by omega, HLO.out, fun j q hq hj => Int.lt_of_lt_of_le hgt (hs _ j p q HP.out hq hj)⟩
        case measure => simp [intOf]; omega
    · obtain rfl : a = b := by omega
      by_cases hlt2 : a < ps.length
      · obtain ⟨p, hp⟩ : ∃ p, ps[a]? = some p := ⟨_, List.getElem?_eq_getElem hlt2⟩
        obtain ⟨c0, c1⟩ := hr _ _ hp
        have hgt := HHI.out a p hp (Nat.le_refl _)
        clear hp
        go_wp2_with (go_at_call 43; refine (cmp_gt p.1 p.2 idx _ c1 hgt).mono ?_; rintro e w' ⟨rfl, rfl⟩)
        go_ret2
        exact ⟨a, rfl, ⟨hb, HLO.out, HHI.out⟩, rfl⟩
      · go_wp2
        go_ret2
        exact ⟨a, rfl, ⟨hb, HLO.out, HHI.out⟩, rfl⟩

set_option maxRecDepth 100000 in
set_option maxHeartbeats 1000000 in
theorem search_none (idx : Int) (w : World) :
    Calls Try.prog 42 #[.slice none 0 0, .int .i64 idx, .func (.func 43) #[] #[]] w (SearchPost [] idx w) := by
  go_enter Try.func42, Try.ntmps42
  go_wp2
  go_loop [9, 10] (fun i j => i = .int .i64 0 ∧ j = .int .i64 0) (fun i j => 0)
  case atStart => exact ⟨rfl, rfl⟩
  case round =>
    obtain ⟨rfl, rfl⟩ := hrel
    go_wp2
    go_ret2
    exact ⟨0, rfl, ⟨Nat.le_refl _, fun j p h => by simp at h, fun j p h => by simp at h⟩, rfl⟩

end Go.Proofs.Qxb6600954a
