/-
  Seat b6600954a: the small functions of the law file: capAddB1 (9), fragBytesOneB1 (20), fragsBytesB1 (10), the five zzBytes_.. (8, 19, 31, 32, 34).
-/
import Derived.Test.Qxb6600954aRows
import Derived.WalkKit
import Derived.WalkSpells
import Derived.WalkLawsBesides
namespace Go.Proofs.Qxb6600954a
open Go.RowKit

theorem ret_int {k : IntKind} {a b : Int} (h : a = b) : Ending.returned (.int k a) = .returned (.int k b) := by rw [h]

/-- capAddB1 -/
def capAdd (n l : Int) : Int := if 1048576 < n ∨ 1048576 < l then 1048577 else n + l

set_option maxHeartbeats 400000 in
theorem capAdd_any (n l : Int) (w : World) (h0 : 0 ≤ n) (h1 : 0 ≤ l) :
    Calls Try.prog 9 #[.int .i64 n, .int .i64 l] w fun e w' => e = .returned (.int .i64 (capAdd n l)) ∧ w' = w := by
  unfold capAdd
  by_cases hn : 1048576 < n
  · rw [if_pos (Or.inl hn)]
    go_enter Try.func9, Try.ntmps9
    go_wp2
    go_ret
    exact ⟨rfl, rfl⟩
  · by_cases hl : 1048576 < l
    · rw [if_pos (Or.inr hl)]
      go_enter Try.func9, Try.ntmps9
      go_wp2
      go_ret
      exact ⟨rfl, rfl⟩
    · rw [if_neg (by omega)]
      go_enter Try.func9, Try.ntmps9
      go_wp2
      go_ret
      exact ⟨rfl, rfl⟩

/-- A fragment: FragB1's and ToolCallFragment's five fields. -/
structure Frag where
  index : Int
  has : Bool
  id : ByteArray
  name : ByteArray
  args : ByteArray

abbrev Frag.cells (f : Frag) : Array Value := #[.int .i64 f.index, .bool f.has, .string f.id, .string f.name, .string f.args]

def fragOne (n : Int) (f : Frag) : Int := capAdd (capAdd (capAdd (capAdd n 64) f.id.size) f.name.size) f.args.size

theorem capAdd_nonneg (n l : Int) (h0 : 0 ≤ n) (h1 : 0 ≤ l) : 0 ≤ capAdd n l := by unfold capAdd; split <;> omega

set_option maxHeartbeats 400000 in
theorem fragOne_any (n : Int) (f : Frag) (w : World) (h0 : 0 ≤ n) :
    Calls Try.prog 20 #[.int .i64 n, .agg f.cells] w fun e w' => e = .returned (.int .i64 (fragOne n f)) ∧ w' = w.alloc (.cells f.cells 36) := by
  unfold fragOne
  have a1 := capAdd_nonneg n 64 h0 (by omega)
  have a2 := capAdd_nonneg _ f.id.size a1 (by omega)
  have a3 := capAdd_nonneg _ f.name.size a2 (by omega)
  go_enter Try.func20, Try.ntmps20
  go_wp2_with (go_at_call 9; refine (capAdd_any _ _ _ (by assumption) (by omega)).mono ?_; rintro e w' ⟨rfl, rfl⟩)
  go_ret
  exact ⟨rfl, rfl⟩

theorem fragOne_nonneg (n : Int) (f : Frag) (h0 : 0 ≤ n) : 0 ≤ fragOne n f := by
  unfold fragOne
  exact capAdd_nonneg _ _ (capAdd_nonneg _ _ (capAdd_nonneg _ _ (capAdd_nonneg _ _ h0 (by omega)) (by omega)) (by omega)) (by omega)

/-- the row of fragments, as cells -/
def FragRow (w : World) (b off : Nat) (fs : List Frag) : Prop :=
  ∀ i f, fs[i]? = some f → w.cell? ⟨b, off + i * 5, none⟩ = some (.int .i64 f.index) ∧ w.cell? ⟨b, off + i * 5 + 1, none⟩ = some (.bool f.has) ∧
    w.cell? ⟨b, off + i * 5 + 2, none⟩ = some (.string f.id) ∧ w.cell? ⟨b, off + i * 5 + 3, none⟩ = some (.string f.name) ∧ w.cell? ⟨b, off + i * 5 + 4, none⟩ = some (.string f.args)

/-- a slice of fragments: nothing is read of an empty one -/
def IsFrags (w : World) (a : Option Addr) (fs : List Frag) : Prop :=
  fs = [] ∨ ∃ b off, a = some ⟨b, off, none⟩ ∧ b < w.heap.size ∧ FragRow w b off fs

theorem IsFrags.at {w : World} {a : Option Addr} {fs : List Frag} (h : IsFrags w a fs) {k : Nat} (hk : k < fs.length) : ∃ b off, a = some ⟨b, off, none⟩ ∧ b < w.heap.size ∧ FragRow w b off fs := by
  rcases h with rfl | h
  · simp at hk
  · exact h

def fragsBytes (fs : List Frag) : Int := if 4096 < (fs.length : Int) then 1048577 else fs.foldl fragOne 0

theorem foldl_nonneg (fs : List Frag) (n : Int) (h : 0 ≤ n) : 0 ≤ fs.foldl fragOne n := by
  induction fs generalizing n with
  | nil => exact h
  | cons f fs ih => exact ih _ (fragOne_nonneg n f h)

set_option maxHeartbeats 400000 in
theorem fragsBytes_any (a : Option Addr) (cap : Nat) (fs : List Frag) (w : World) (hr : IsFrags w a fs) (hl : fs.length ≤ 9223372036854775807) :
    Calls Try.prog 10 #[.slice a fs.length cap] w fun e w' => e = .returned (.int .i64 (fragsBytes fs)) ∧ Below w.heap.size w w' := by
  unfold fragsBytes
  by_cases hn : 4096 < (fs.length : Int)
  · rw [if_pos hn]
    go_enter Try.func10, Try.ntmps10
    go_wp2
    go_ret
    exact ⟨rfl, Below.refl _ _⟩
  · rw [if_neg hn]
    go_enter Try.func10, Try.ntmps10
    go_wp2
    go_loopw [3, 4] (fun n i wr => ∃ k : Nat, k ≤ fs.length ∧ i = .int .i64 k ∧ n = .int .i64 ((fs.take k).foldl fragOne 0) ∧ Below w.heap.size w wr) (fun _ i _ => fs.length - (intOf i).toNat)
    case atStart => exact ⟨0, Nat.zero_le _, rfl, rfl, Below.refl _ _⟩
    case round =>
      obtain ⟨k, hk, rfl, rfl, hbel⟩ := hrel
      by_cases hlt : k < fs.length
      · obtain ⟨b, off, rfl, hb, hr⟩ := hr.at hlt
        obtain ⟨f, hf⟩ : ∃ f, fs[k]? = some f := ⟨_, List.getElem?_eq_getElem hlt⟩
        obtain ⟨c0, c1, c2, c3, c4⟩ := hr k _ hf
        rw [← hbel.cell (p := ⟨b, _, none⟩) hb] at c0 c1 c2 c3 c4
        have HF : Hid (fs[k]? = some f) := hf
        clear hf
        have hnn := foldl_nonneg (fs.take k) 0 (by omega)
        go_wp2_with (go_at_call 20; refine (fragOne_any _ f _ (by assumption)).mono ?_; rintro e w' ⟨rfl, rfl⟩)
        go_roundw
        case rel => exact ⟨k + 1, by omega, by go_num, by rw [List.take_add_one, HF.out]; simp, hbel.alloc hbel.size _⟩
        case measure => simp [intOf]; omega
      · go_wp2
        go_ret
        exact ⟨ret_int (by rw [List.take_of_length_le (by omega)]), hbel⟩

/-- the lengths of all that the fragments lead to -/
def Frag.len (f : Frag) : Nat := f.id.size + f.name.size + f.args.size
def total (fs : List Frag) : Nat := (fs.map Frag.len).sum
theorem total_take_succ (fs : List Frag) (k : Nat) (f : Frag) (h : fs[k]? = some f) : total (fs.take (k + 1)) = total (fs.take k) + f.len := by
  unfold total
  rw [List.take_add_one, h]; simp

/-- what a zzBytes_.. function hands back: where it says yes, the lengths add up to no more than 2^20 -/
def ZzPost (n : Nat) (w : World) (e : Ending) (w' : World) : Prop := ∃ r, e = .returned (.bool r) ∧ (r = true → n ≤ 1048576) ∧ w' = w
theorem zz_no {n : Nat} {w : World} : ZzPost n w (.returned (.bool false)) w := ⟨false, rfl, (fun h => by cases h), rfl⟩
theorem zz_yes {n : Nat} {w : World} (h : n ≤ 1048576) : ZzPost n w (.returned (.bool true)) w := ⟨true, rfl, fun _ => h, rfl⟩

set_option maxHeartbeats 1000000 in
theorem zzBytes31_any (a : Option Addr) (cap : Nat) (fs : List Frag) (w : World) (hr : IsFrags w a fs) (hl : fs.length ≤ 9223372036854775807) :
    Calls Try.prog 31 #[.slice a fs.length cap] w (ZzPost (fs.length + total fs) w) := by
  by_cases hn : 1048576 < (fs.length : Int)
  · go_enter Try.func31, Try.ntmps31
    go_wp2
    go_ret
    exact zz_no
  · go_enter Try.func31, Try.ntmps31
    go_wp2
    go_loop [3, 4] (fun n i => ∃ k : Nat, k ≤ fs.length ∧ i = .int .i64 k ∧ n = .int .i64 (fs.length + total (fs.take k)) ∧ fs.length + total (fs.take k) ≤ 1048576) (fun _ i => fs.length - (intOf i).toNat)
    case atStart => exact ⟨0, Nat.zero_le _, rfl, by simp [total], by simp [total]; omega⟩
    case round =>
      obtain ⟨k, hk, rfl, rfl, hbd⟩ := hrel
      by_cases hlt : k < fs.length
      · obtain ⟨b, off, rfl, hb, hr⟩ := hr.at hlt
        obtain ⟨f, hf⟩ : ∃ f, fs[k]? = some f := ⟨_, List.getElem?_eq_getElem hlt⟩
        obtain ⟨c0, c1, c2, c3, c4⟩ := hr k _ hf
        have HT : Hid (total (fs.take (k + 1)) = total (fs.take k) + (f.id.size + f.name.size + f.args.size)) := total_take_succ fs k f hf
        clear hf
        go_wp2
        iterate 6
          · go_ret
            exact zz_no
        go_round
        case rel => exact ⟨k + 1, by omega, by go_num, by rw [HT.out]; go_num, by rw [HT.out]; omega⟩
        case measure => simp [intOf]; omega
      · go_wp2
        go_ret
        exact zz_yes (by rw [List.take_of_length_le (by omega)] at hbd; exact hbd)

end Go.Proofs.Qxb6600954a
