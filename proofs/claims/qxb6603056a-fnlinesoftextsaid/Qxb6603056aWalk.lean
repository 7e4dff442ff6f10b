/-
  Seat b6603056a: FnLinesOfText (7) and what it calls, walked.
-/
import Derived.Test.Qxb6603056aRows
import Derived.WalkKit
import Derived.WalkSpells
import Derived.WalkLawsBesides
import Derived.Lib.SliceRun
import Derived.Deep.OwnRows
namespace Go.Proofs.Qxb6603056a
open Go.RowKit

theorem ret_int {k : IntKind} {a b : Int} (h : a = b) : Ending.returned (.int k a) = .returned (.int k b) := by rw [h]

/-- the numbers 'zs' lie behind the slice (nothing is read of an empty one) -/
def IsBytes (w : World) (a : Option Addr) (zs : List Int) : Prop :=
  zs = [] ∨ ∃ b off, a = some ⟨b, off, none⟩ ∧ b < w.heap.size ∧ ∀ i z, zs[i]? = some z → w.cell? ⟨b, off + i, none⟩ = some (.int .u8 z)

theorem IsBytes.at {w : World} {a : Option Addr} {zs : List Int} (h : IsBytes w a zs) {k : Nat} (hk : k < zs.length) : ∃ b off, a = some ⟨b, off, none⟩ ∧ b < w.heap.size ∧ ∀ i z, zs[i]? = some z → w.cell? ⟨b, off + i, none⟩ = some (.int .u8 z) := by
  rcases h with rfl | h
  · simp at hk
  · exact h

theorem info5 : (Try.prog.info? 5).map (fun i => (i.zero, i.size, i.bytes)) = some (some (.int .u8 0), 1, 1) := by kernel_rfl

def ClonePost (zs : List Int) (w : World) (e : Ending) (w' : World) : Prop :=
  ∃ a' c', e = .returned (.slice a' zs.length c') ∧ (zs = [] ∨ ∃ b, a' = some ⟨b, 0, none⟩ ∧ b < w'.heap.size ∧ ∀ i z, zs[i]? = some z → w'.cell? ⟨b, i, none⟩ = some (.int .u8 z)) ∧ Below w.heap.size w w'

def CloneRel (zs : List Int) (w : World) (k : Nat) (wr : World) : Prop :=
  ∃ arr : Array Value, wr.heap[w.heap.size]? = some (.cells arr 5) ∧ arr.size = zs.length ∧ (∀ i z, zs[i]? = some z → i < k → arr[i]? = some (.int .u8 z)) ∧ Below w.heap.size w wr

theorem hide4 {p q r t : Prop} (h : p) (h' : q) (h'' : r) (h3 : t) : Hid (p ∧ q ∧ r ∧ t) := ⟨h, h', h'', h3⟩

set_option maxRecDepth 100000 in
set_option maxHeartbeats 1000000 in
theorem clone_any (a : Option Addr) (cap : Nat) (zs : List Int) (w : World) (hr : IsBytes w a zs) (hl : zs.length ≤ 100000) :
    Calls Try.prog 9 #[.slice a zs.length cap] w (ClonePost zs w) := by
  have q22 : ∀ (w : World) (a : Option Addr) (n c : Nat), (binOp .eql 22 (.slice a n c) (.slice none 0 0)).run Try.prog w = .ok (.bool a.isNone) w := fun w a n c => Lib.run_eql_slice_nil w _ _ a n c 0 0 Try.underlying22
  cases a with
  | none =>
    rcases hr with rfl | ⟨b, off, h, _⟩
    · go_enter Try.func9, Try.ntmps9
      go_wp2
      go_ret
      exact ⟨none, 0, rfl, .inl rfl, Below.refl _ _⟩
    · cases h
  | some a =>
    have hmk0 := run_make_row' (P := Try.prog) 22 5 (.int .u8 0) 1 Try.underlying22 info5 rfl .i64 .i64 zs.length (by omega) (by omega)
    obtain ⟨ROW, hRs, hmk⟩ : ∃ ROW : Array Value, ROW.size = zs.length ∧ ∀ w, (Instr.makeSlice 22 (.int .i64 (zs.length : Int)) (.int .i64 (zs.length : Int))).run Try.prog w = .ok (.slice (some ⟨w.heap.size, 0, none⟩) zs.length zs.length) (w.alloc (.cells ROW 5)) :=
      ⟨_, by rw [size_madeCells], hmk0⟩
    clear hmk0
    go_enter Try.func9, Try.ntmps9
    go_wp2
    go_loopw [4] (fun i wr => ∃ k : Nat, k ≤ zs.length ∧ i = .int .i64 k ∧ CloneRel zs w k wr) (fun i _ => zs.length - (intOf i).toNat)
    case atStart => exact ⟨0, Nat.zero_le _, rfl, ROW, heap_alloc_new w _, hRs, fun j f _ h => absurd h (Nat.not_lt_zero _), (Below.refl _ _).alloc (Nat.le_refl _) _⟩
    case round =>
      obtain ⟨k, hk, rfl, arr, ha, has, hrow, hbel⟩ := hrel
      by_cases hlt : k < zs.length
      · obtain ⟨b, off, e, hb, hr2⟩ := hr.at hlt
        cases e
        obtain ⟨z, hz⟩ : ∃ z, zs[k]? = some z := ⟨_, List.getElem?_eq_getElem hlt⟩
        have c0 := hr2 k z hz
        rw [← hbel.cell (p := ⟨b, _, none⟩) hb] at c0
        have HF := hide4 hz ha hrow hbel
        obtain ⟨v0, d0⟩ : ∃ v, wr.cell? ⟨w.heap.size, k, none⟩ = some v := ⟨arr[k]'(by omega), by simp [World.cell?, ha, has, hlt]⟩
        have z0 : wr.frozen? ⟨w.heap.size, k, none⟩ = false := by simp [World.frozen?, ha]
        clear hz ha hrow hbel hr2
        go_wp2
        go_roundw
        case rel =>
          obtain ⟨hz, ha, hrow, hbel⟩ := HF.out
          refine ⟨k + 1, by omega, by go_num, _, heap_setCell_same _ _ _ _ _ _ ha, by simpa using has, fun i y hy hi => ?_, hbel.setCell (Nat.le_refl _) _⟩
          rw [Array.getElem?_setIfInBounds]
          by_cases e : k = i
          · subst e
            rw [if_pos rfl, if_pos (by omega)]
            rw [hz] at hy; cases hy; rfl
          · rw [if_neg e]; exact hrow i y hy (by omega)
        case measure => simp [intOf]; omega
      · go_wp2
        go_ret
        obtain rfl : k = zs.length := by omega
        refine ⟨_, _, rfl, .inr ⟨w.heap.size, rfl, (Array.getElem?_eq_some_iff.1 ha).1, fun i z hz => ?_⟩, hbel⟩
        have := hrow i z hz (List.getElem?_eq_some_iff.1 hz).1
        simpa [World.cell?, ha] using this

set_option maxHeartbeats 400000 in
theorem zz_no (a : Option Addr) (n cap : Nat) (w : World) (h : 1048576 < (n : Int)) : Calls Try.prog 17 #[.slice a n cap] w fun e w' => e = .returned (.bool false) ∧ w = w' := by
  go_enter Try.func17, Try.ntmps17
  go_wp2
  go_ret
  exact ⟨rfl, rfl⟩

set_option maxHeartbeats 400000 in
theorem zz_yes (a : Option Addr) (n cap : Nat) (w : World) (h : (n : Int) ≤ 1048576) : Calls Try.prog 17 #[.slice a n cap] w fun e w' => e = .returned (.bool true) ∧ w = w' := by
  go_enter Try.func17, Try.ntmps17
  go_wp2
  go_ret
  exact ⟨rfl, rfl⟩

/-- lines -/
def linesF (breaks : Int) (opened : Bool) : Int := if opened = true ∨ breaks = 0 then breaks + 1 else breaks

set_option maxHeartbeats 400000 in
theorem lines_any (b : Nat) (n : Int) (o : Bool) (w : World) (h0 : w.cell? ⟨b, 0, none⟩ = some (.int .i64 n)) (h1 : w.cell? ⟨b, 1, none⟩ = some (.bool o)) (hn : 0 ≤ n) (hn2 : n ≤ 1000000) :
    Calls Try.prog 21 #[.pointer (some ⟨b, 0, none⟩)] w fun e w' => e = .returned (.int .i64 (linesF n o)) ∧ w = w' := by
  cases o with
  | true =>
    go_enter Try.func21, Try.ntmps21
    go_wp2
    go_ret
    exact ⟨rfl, rfl⟩
  | false =>
    by_cases h : n = 0
    · subst h
      go_enter Try.func21, Try.ntmps21
      go_wp2
      go_ret
      exact ⟨rfl, rfl⟩
    · have h' : (n == 0) = false := by simpa using h
      go_enter Try.func21, Try.ntmps21
      go_wp2
      go_ret
      exact ⟨ret_int (by unfold linesF; rw [if_neg (by simp [h])]), rfl⟩

set_option maxHeartbeats 400000 in
theorem zzLines_any (n : Int) (o : Bool) (w : World) (hn : 0 ≤ n) (hn2 : n ≤ 1000000) :
    Calls Try.prog 18 #[.int .i64 n, .bool o] w fun e w' => e = .returned (.int .i64 (linesF n o)) ∧ w' = w.alloc (.cells #[.int .i64 n, .bool o] 30) := by
  go_enter Try.func18, Try.ntmps18
  go_wp2_with (go_at_call 21; refine (lines_any _ n o _ (by simp) (by simp) hn hn2).mono ?_; rintro e w' ⟨rfl, rfl⟩)
  go_ret
  exact ⟨rfl, rfl⟩

end Go.Proofs.Qxb6603056a
