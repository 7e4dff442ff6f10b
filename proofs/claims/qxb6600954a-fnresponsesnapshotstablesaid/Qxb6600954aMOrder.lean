/-
  Seat b6600954a: modelOrder (17), walked: its insertion sort gives the model's order.
-/
import Derived.Test.Qxb6600954aMatch
import Derived.Test.Qxb6600954aAcc
namespace Go.Proofs.Qxb6600954a
open Go.RowKit

theorem takeWhile_split {p : Nat → Bool} : ∀ (l1 l2 : List Nat), (∀ a ∈ l1, p a = true) → (∀ b ∈ l2, p b = false) → (l1 ++ l2).takeWhile p = l1 ∧ (l1 ++ l2).dropWhile p = l2
  | [], [], _, _ => ⟨rfl, rfl⟩
  | [], b :: l, _, h2 => by simp [h2 b (by simp)]
  | a :: l1, l2, h1, h2 => by
    have ih := takeWhile_split l1 l2 (fun x hx => h1 x (by simp [hx])) h2
    simp [h1 a (by simp), ih.1, ih.2]

/-- place i, carried down to j -/
def lay (o : List Nat) (i j n : Nat) : List Nat := o.take j ++ i :: (o.drop j ++ List.range' (i + 1) (n - (i + 1)))

theorem lay_length {o : List Nat} {i j n : Nat} (ho : o.length = i) (hi : i < n) (hj : j ≤ i) : (lay o i j n).length = n := by
  simp [lay]
  omega

theorem lay_start {o : List Nat} {i n : Nat} (ho : o.length = i) (hi : i < n) : o ++ List.range' i (n - i) = lay o i i n := by
  have e : n - i = (n - (i + 1)) + 1 := by omega
  rw [e, List.range'_succ, lay, List.take_of_length_le (by omega), List.drop_of_length_le (by omega)]
  simp

theorem lay_done (ix : Nat → Int) {i j n : Nat} (hd : ∀ m ∈ (ordK ix i).drop j, ix i < ix m) (ht : j = 0 ∨ ∃ x, (ordK ix i)[j - 1]? = some x ∧ ix x ≤ ix i) :
    lay (ordK ix i) i j n = ordK ix (i + 1) ++ List.range' (i + 1) (n - (i + 1)) := by
  have h1 : ∀ a ∈ (ordK ix i).take j, decide (ix a ≤ ix i) = true := by
    intro a ha
    obtain ⟨q, hq⟩ := List.getElem?_of_mem ha
    rw [List.getElem?_take] at hq
    split at hq
    · rename_i hqj
      rcases ht with h0 | ⟨x, hx, hle⟩
      · omega
      · by_cases e : q = j - 1
        · rw [e, hx] at hq
          cases hq
          simpa using hle
        · have := ordK_lt hq hx (by omega)
          have : ix a ≤ ix x := by rcases this with h | h <;> omega
          simp
          omega
    · cases hq
  have h2 : ∀ b ∈ (ordK ix i).drop j, decide (ix b ≤ ix i) = false := fun b hb => by
    have := hd b hb
    simp
    omega
  have h3 := takeWhile_split ((ordK ix i).take j) ((ordK ix i).drop j) h1 h2
  rw [List.take_append_drop] at h3
  rw [ordK, insK, h3.1, h3.2, lay]
  simp

theorem lay_get {o : List Nat} {i q n x : Nat} (hx : o[q]? = some x) : (lay o i (q + 1) n)[q]? = some x ∧ (lay o i (q + 1) n)[q + 1]? = some i := by
  have hq : q < o.length := (List.getElem?_eq_some_iff.1 hx).1
  have hl : (o.take (q + 1)).length = q + 1 := by rw [List.length_take]; omega
  constructor
  · rw [lay, List.getElem?_append_left (by omega), List.getElem?_take, if_pos (by omega)]; exact hx
  · rw [lay, List.getElem?_append_right (by omega), hl]
    simp

theorem lay_swap {o : List Nat} {i q n x : Nat} (hx : o[q]? = some x) : ((lay o i (q + 1) n).set q i).set (q + 1) x = lay o i q n := by
  have hq : q < o.length := (List.getElem?_eq_some_iff.1 hx).1
  have e1 : o.take (q + 1) = o.take q ++ [x] := by rw [List.take_add_one, hx]; rfl
  have e2 : o.drop q = x :: o.drop (q + 1) := by
    rw [List.drop_eq_getElem_cons hq]
    congr 1
    rw [List.getElem?_eq_getElem hq] at hx
    exact Option.some.inj hx
  have hl : (o.take q).length = q := by rw [List.length_take]; omega
  unfold lay
  rw [e1, e2]
  simp only [List.append_assoc, List.cons_append, List.nil_append]
  have s1 := set_mid (o.take q) (i :: (o.drop (q + 1) ++ List.range' (i + 1) (n - (i + 1)))) x i
  rw [hl] at s1
  rw [s1]
  have s2 := set_mid (o.take q ++ [i]) (o.drop (q + 1) ++ List.range' (i + 1) (n - (i + 1))) i x
  simp only [List.append_assoc, List.cons_append, List.nil_append, List.length_append, List.length_singleton, hl] at s2
  exact s2

/-- places as they lie in a []int -/
def ints (L : List Nat) : Array Value := (L.map fun m : Nat => Value.int .i64 (m : Int)).toArray

theorem ints_set (L : List Nat) (q m : Nat) : (ints L).setIfInBounds q (.int .i64 (m : Int)) = ints (L.set q m) := by
  apply Array.ext'
  simp [ints, List.map_set]

theorem ints_get {L : List Nat} {q m : Nat} (h : L[q]? = some m) : (ints L)[q]? = some (.int .i64 (m : Int)) := by
  simp [ints, h]

theorem ints_range {arr : Array Value} {n : Nat} (hs : arr.size = n) (h : ∀ q, q < n → arr[q]? = some (.int .i64 (q : Int))) : arr = ints (List.range' 0 n) := by
  apply Array.ext_getElem?
  intro q
  by_cases hq : q < n
  · rw [h q hq, ints_get]
    rw [List.getElem?_range' hq]; simp
  · rw [Array.getElem?_eq_none (by omega), Array.getElem?_eq_none (by simp [ints]; omega)]

theorem info3 : ∃ i z, Try.prog.info? 3 = some i ∧ i.zero = some z ∧ i.size = 1 ∧ i.bytes = 8 := by
  have h : (Try.prog.info? 3).map (fun i => (i.zero.isSome, i.size, i.bytes)) = some (true, 1, 8) := by kernel_rfl
  obtain ⟨i, hi, he⟩ := Option.map_eq_some_iff.1 h
  simp only [Prod.mk.injEq] at he
  obtain ⟨z, hz⟩ := Option.isSome_iff_exists.1 he.1
  exact ⟨i, z, hi, hz, he.2.1, he.2.2⟩

def OBlk (w : World) (L : List Nat) (wr : World) : Prop := wr.heap[w.heap.size]? = some (.cells (ints L) 3) ∧ Below w.heap.size w wr

theorem OBlk.cell {w wr : World} {L : List Nat} (h : OBlk w L wr) {q m : Nat} (hm : L[q]? = some m) : wr.cell? ⟨w.heap.size, q, none⟩ = some (.int .i64 (m : Int)) := by
  simp [World.cell?, h.1, ints_get hm]
theorem OBlk.free {w wr : World} {L : List Nat} (h : OBlk w L wr) (q : Nat) : wr.frozen? ⟨w.heap.size, q, none⟩ = false := by
  simp [World.frozen?, h.1]
theorem OBlk.set {w wr : World} {L : List Nat} (h : OBlk w L wr) (q m : Nat) : OBlk w (L.set q m) (wr.setCell ⟨w.heap.size, q, none⟩ (.int .i64 (m : Int))) :=
  ⟨by rw [heap_setCell_same _ _ _ _ _ _ h.1, ints_set], h.2.setCell (Nat.le_refl _) _⟩
theorem OBlk.drewN {w wr : World} {L : List Nat} (h : OBlk w L wr) (n : Nat) : OBlk w L (wr.drewN n) :=
  ⟨by simpa using h.1, h.2.trans ⟨rfl, rfl, rfl, by simp, fun _ _ => by simp⟩⟩

def OStart (n : Nat) (w : World) (k : Nat) (wr : World) : Prop :=
  ∃ arr, wr.heap[w.heap.size]? = some (.cells arr 3) ∧ arr.size = n ∧ (∀ q, q < k → arr[q]? = some (.int .i64 (q : Int))) ∧ Below w.heap.size w wr

def OrdPost (s : MSt) (w : World) (e : Ending) (w' : World) : Prop :=
  e = .returned (.slice (some ⟨w.heap.size, 0, none⟩) s.calls.length s.calls.length) ∧ OBlk w s.ord w'

def OIn (s : MSt) (w : World) (i j : Nat) (wr : World) : Prop :=
  j ≤ i ∧ (∀ m ∈ (ordK (mix s.calls) i).drop j, mix s.calls i < mix s.calls m) ∧ OBlk w (lay (ordK (mix s.calls) i) i j s.calls.length) wr

def OOut (s : MSt) (w : World) (k : Nat) (wr : World) : Prop :=
  1 ≤ k ∧ (k ≤ s.calls.length ∨ k = 1) ∧ OBlk w (ordK (mix s.calls) (min k s.calls.length) ++ List.range' (min k s.calls.length) (s.calls.length - min k s.calls.length)) wr

theorem OOut.start {s : MSt} {w wr : World} (h : OBlk w (ordK (mix s.calls) 0 ++ List.range' 0 (s.calls.length - 0)) wr) : OOut s w 1 wr := by
  refine ⟨Nat.le_refl _, .inr rfl, ?_⟩
  by_cases h0 : s.calls.length = 0
  · rw [h0] at h ⊢
    exact h
  · rw [Nat.min_eq_left (by omega)]
    rw [lay_start (o := ordK (mix s.calls) 0) (i := 0) rfl (by omega)] at h
    rwa [lay_done (mix s.calls) (fun m hm => by simp [ordK] at hm) (.inl rfl)] at h

theorem OOut.inner {s : MSt} {w wr : World} {k : Nat} (h : OOut s w k wr) (hk : k < s.calls.length) : OIn s w k k wr := by
  obtain ⟨h1, h2, h3⟩ := h
  rw [Nat.min_eq_left (by omega), lay_start (ordK_length _ _) hk] at h3
  refine ⟨Nat.le_refl _, fun m hm => ?_, h3⟩
  rw [List.drop_of_length_le (by rw [ordK_length]; exact Nat.le_refl _)] at hm
  simp at hm

theorem OIn.outer {s : MSt} {w wr : World} {i j : Nat} (hi : i < s.calls.length) (h : OIn s w i j wr) (ht : j = 0 ∨ ∃ x, (ordK (mix s.calls) i)[j - 1]? = some x ∧ mix s.calls x ≤ mix s.calls i) : OOut s w (i + 1) wr := by
  obtain ⟨h1, h2, h3⟩ := h
  rw [lay_done _ h2 ht] at h3
  exact ⟨by omega, .inl (by omega), by rw [Nat.min_eq_left (by omega)]; exact h3⟩

theorem OOut.done {s : MSt} {w wr : World} {k : Nat} (h : OOut s w k wr) (hk : s.calls.length ≤ k) : OBlk w s.ord wr := by
  obtain ⟨h1, h2, h3⟩ := h
  rw [Nat.min_eq_right hk, Nat.sub_self] at h3
  simpa [MSt.ord] using h3

theorem OIn.swap {s : MSt} {w wr : World} {i q x : Nat} (h : OIn s w i (q + 1) wr) (hx : (ordK (mix s.calls) i)[q]? = some x) (hlt : mix s.calls i < mix s.calls x) :
    OIn s w i q ((wr.setCell ⟨w.heap.size, q, none⟩ (.int .i64 (i : Int))).setCell ⟨w.heap.size, q + 1, none⟩ (.int .i64 (x : Int))) := by
  obtain ⟨h1, h2, h3⟩ := h
  have hq : q < (ordK (mix s.calls) i).length := (List.getElem?_eq_some_iff.1 hx).1
  refine ⟨by omega, fun m hm => ?_, ?_⟩
  · rw [List.drop_eq_getElem_cons hq] at hm
    rcases List.mem_cons.1 hm with rfl | hm
    · rw [List.getElem?_eq_getElem hq] at hx
      cases hx
      exact hlt
    · exact h2 m hm
  · have := (h3.set q i).set (q + 1) x
    rwa [lay_swap hx] at this

theorem OIn.drewN {s : MSt} {w wr : World} {i j : Nat} (h : OIn s w i j wr) (n : Nat) : OIn s w i j (wr.drewN n) := ⟨h.1, h.2.1, h.2.2.drewN n⟩

section
variable {B S : Nat} {s : MSt} {ph : Phys} {w : World}

/-- the index of a call, behind any world over w -/
theorem MHolds.ixAt (h : MHolds B S s ph w) {wr : World} (hb : Below w.heap.size w wr) {k : Nat} (hk : k < s.calls.length) {g : Nat} {cap : Nat} (hcv : ph.cv = .slice (some ⟨g, 0, none⟩) s.calls.length cap) : wr.cell? ⟨g, k * 4, none⟩ = some (.int .i64 (mix s.calls k)) := by
  obtain ⟨g', cap', hcv', hgl, hcells⟩ := h.rowAt (get_cget hk)
  rw [hcv] at hcv'
  cases hcv'
  have hg := (h.labs _ _ hgl).2
  have := hcells 0 (by omega)
  rw [Nat.add_zero] at this
  rw [hb.cell (p := ⟨g, k * 4, none⟩) hg, this]
  rfl

set_option maxRecDepth 100000 in
set_option maxHeartbeats 2000000 in
theorem mOrder_any (h : MHolds B S s ph w) (hn : s.calls.length ≤ 100000) : Calls Try.prog 17 #[.pointer (some ⟨S, 0, none⟩)] w (OrdPost s w) := by
  have hS := (h.labs _ _ h.labS).2
  obtain ⟨a, cap, hcv⟩ := h.cvIs
  have c0 := h.box0
  rw [hcv] at c0
  have HH := hide1 h
  have HC := hide1 hcv
  clear hcv h
  obtain ⟨n, hnn⟩ : ∃ n, n = s.calls.length := ⟨_, rfl⟩
  obtain ⟨i0, z, hi0, hz0, hzs, hzb⟩ := info3
  obtain ⟨ROW, hRs, hmk⟩ : ∃ ROW : Array Value, ROW.size = s.calls.length ∧ ∀ w, (Instr.makeSlice 46 (.int .i64 (s.calls.length : Int)) (.int .i64 (s.calls.length : Int))).run Try.prog w = .ok (.slice (some ⟨w.heap.size, 0, none⟩) s.calls.length s.calls.length) (w.alloc (.cells ROW 3)) := by
    refine ⟨madeCells z.cells (s.calls.length * i0.size), by rw [size_madeCells, hzs, Nat.mul_one], fun w => ?_⟩
    have := run_make (P := Try.prog) w 46 3 i0 z Try.underlying46 hi0 hz0 .i64 .i64 s.calls.length s.calls.length (by omega) (Int.le_refl _) (by rw [hzb]; omega) (by omega)
    simpa using this
  go_enter Try.func17, Try.ntmps17
  go_wp2
  go_loopw [4] (fun i wr => ∃ k : Nat, k ≤ s.calls.length ∧ i = .int .i64 k ∧ OStart s.calls.length w k wr) (fun i _ => s.calls.length - (intOf i).toNat)
  case atStart => exact ⟨0, Nat.zero_le _, rfl, ROW, heap_alloc_new w _, hRs, fun q h => absurd h (Nat.not_lt_zero _), (Below.refl _ _).alloc (Nat.le_refl _) _⟩
  case round =>
    obtain ⟨k, hk, rfl, arr, ha, has, hrow, hbel⟩ := hrel
    by_cases hlt : k < s.calls.length
    · have HF := hide3 ha hrow hbel
      have z0 : wr.frozen? ⟨w.heap.size, k, none⟩ = false := by simp [World.frozen?, ha]
      obtain ⟨v0, d0⟩ : ∃ v, wr.cell? ⟨w.heap.size, k, none⟩ = some v := ⟨arr[k], by simp [World.cell?, ha, has, hlt]⟩
      clear ha hrow hbel
      go_wp2
      go_roundw
      case rel =>
        obtain ⟨ha, hrow, hbel⟩ := HF.out
        refine ⟨k + 1, by omega, by go_num, _, heap_setCell_same _ _ _ _ _ _ ha, by simpa using has, fun q hq => ?_, hbel.setCell (Nat.le_refl _) _⟩
        rw [Array.getElem?_setIfInBounds]
        by_cases e : k = q
        · subst e; rw [if_pos rfl, if_pos (by omega)]
        · rw [if_neg e]; exact hrow q (by omega)
      case measure => simp [intOf]; omega
    · obtain rfl : k = s.calls.length := by omega
      have harr := ints_range has hrow
      rw [harr] at ha
      have hO : OBlk w (ordK (mix s.calls) 0 ++ List.range' 0 (s.calls.length - 0)) wr := ⟨ha, hbel⟩
      have HO := hide1 hO
      clear ha hbel hO harr has hrow
      go_wp2
      go_loopw [5, 6, 7] (fun i _ _ wr => ∃ k : Nat, i = .int .i64 k ∧ OOut s w k wr) (fun i _ _ _ => s.calls.length - (intOf i).toNat)
      case atStart => exact ⟨1, rfl, OOut.start HO.out⟩
      case round =>
        obtain ⟨k, rfl, hOut⟩ := hrel
        by_cases hlt : k < s.calls.length
        · have hIn := hOut.inner hlt
          have HIN := hide1 hIn
          clear hIn hOut
          obtain ⟨c, hc⟩ : ∃ c, s.calls[k]? = some c := ⟨_, List.getElem?_eq_getElem hlt⟩
          obtain ⟨g, cap', hcv, hgl, _⟩ := HH.out.rowAt hc
          have hg := (HH.out.labs _ _ hgl).2
          rw [HC.out] at hcv
          cases hcv
          clear hc hgl
          go_wp2
          go_loopw [6, 7] (fun j _ wr => ∃ q : Nat, j = .int .i64 q ∧ OIn s w k q wr) (fun j _ _ => (intOf j).toNat)
          case atStart => exact ⟨k, rfl, HIN.out⟩
          case round =>
            obtain ⟨j, rfl, hIn⟩ := hrel
            have hjk := hIn.1
            have e0 : wr.cell? ⟨S, 0, none⟩ = some (.slice (some ⟨g, 0, none⟩) s.calls.length cap) := by rw [hIn.2.2.2.cell (p := ⟨S, 0, none⟩) hS]; exact c0
            have hwr : w.heap.size < wr.heap.size := (Array.getElem?_eq_some_iff.1 hIn.2.2.1).1
            cases j with
            | zero =>
              have HI := hide1 hIn
              clear hIn
              go_wp2_with fail
              go_quiet (fail)
              go_wp2
              go_roundw
              case rel => exact ⟨k + 1, by go_num, OIn.outer hlt (HI.out.drewN _) (.inl rfl)⟩
              case measure => simp [intOf]; omega
            | succ q =>
              obtain ⟨x, hx⟩ : ∃ x, (ordK (mix s.calls) k)[q]? = some x := ⟨_, List.getElem?_eq_getElem (by rw [ordK_length]; omega)⟩
              have hxl : x < s.calls.length := by have := (ordK_mem _ _ _).1 (List.mem_of_getElem? hx); omega
              obtain ⟨l1, l2⟩ := lay_get (i := k) (n := s.calls.length) hx
              have d1 := hIn.2.2.cell l1
              have d2 := hIn.2.2.cell l2
              have z1 := hIn.2.2.free q
              have z2 := hIn.2.2.free (q + 1)
              have i1 := HH.out.ixAt hIn.2.2.2 hxl HC.out
              have i2 := HH.out.ixAt hIn.2.2.2 hlt HC.out
              have HI := hide1 (And.intro hIn hx)
              clear hIn hx l1 l2
              by_cases hgt : mix s.calls k < mix s.calls x
              · have hgd : decide (mix s.calls k < mix s.calls x) = true := decide_eq_true hgt
                go_wp2_with fail
                go_quiet (fail)
                go_wp2
                go_roundw
                case rel => exact ⟨q, by go_num, OIn.swap (HI.out.1.drewN _) HI.out.2 hgt⟩
                case measure => simp [intOf]
              · have hgd : decide (mix s.calls k < mix s.calls x) = false := decide_eq_false hgt
                go_wp2_with fail
                go_quiet (fail)
                go_wp2
                go_roundw
                case rel => exact ⟨k + 1, by go_num, OIn.outer hlt (HI.out.1.drewN _) (.inr ⟨x, HI.out.2, by omega⟩)⟩
                case measure => simp [intOf]; omega
        · have hD := hOut.done (by omega)
          clear hOut
          go_wp2
          go_ret
          exact ⟨rfl, hD⟩

end
end Go.Proofs.Qxb6600954a
