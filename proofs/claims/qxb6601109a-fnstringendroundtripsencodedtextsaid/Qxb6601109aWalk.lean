/-
  Seat b6601109a: cloneBytes (13), the zzBytes of the two laws (15, 18), closingQuote (16), stringEnd (21), ZZStringEnd (17), walked.
-/
import Derived.Test.Qxb6601109aRows
import Derived.Test.Qxb6601109aMem
import Derived.WalkLawsBesides
import Derived.Lib.SliceRun
import Derived.Deep.OwnRows
namespace Go.Proofs.Qxb6601109a
open Go.RowKit

theorem ret_int {k : IntKind} {a b : Int} (h : a = b) : Ending.returned (.int k a) = .returned (.int k b) := by rw [h]
theorem hide1 {p : Prop} (h : p) : Hid p := h

/-- the numbers 'zs' lie behind the slice (nothing is read of an empty one) -/
def IsBytes (w : World) (a : Option Addr) (zs : List Int) : Prop :=
  zs = [] ∨ ∃ b off, a = some ⟨b, off, none⟩ ∧ b < w.heap.size ∧ ∀ i z, zs[i]? = some z → w.cell? ⟨b, off + i, none⟩ = some (.int .u8 z)

theorem IsBytes.at {w : World} {a : Option Addr} {zs : List Int} (h : IsBytes w a zs) {k : Nat} (hk : k < zs.length) : ∃ b off, a = some ⟨b, off, none⟩ ∧ b < w.heap.size ∧ ∀ i z, zs[i]? = some z → w.cell? ⟨b, off + i, none⟩ = some (.int .u8 z) := by
  rcases h with rfl | h
  · simp at hk
  · exact h

theorem IsBytes.below {w w' : World} {a : Option Addr} {zs : List Int} (h : IsBytes w a zs) (hb : Below w.heap.size w w') : IsBytes w' a zs := by
  rcases h with h | ⟨b, off, h1, h2, h3⟩
  · exact .inl h
  · exact .inr ⟨b, off, h1, Nat.lt_of_lt_of_le h2 hb.size, fun i z hz => by rw [hb.cell (p := ⟨b, off + i, none⟩) h2]; exact h3 i z hz⟩

theorem info5 : (Try.prog.info? 5).map (fun i => (i.zero, i.size, i.bytes)) = some (some (.int .u8 0), 1, 1) := by kernel_rfl
theorem size5 : (Try.prog.info? 5).map (·.size) = some 1 := by kernel_rfl

def ClonePost (zs : List Int) (w : World) (e : Ending) (w' : World) : Prop :=
  ∃ a' c', e = .returned (.slice a' zs.length c') ∧ IsBytes w' a' zs ∧ Below w.heap.size w w'

set_option maxRecDepth 100000 in
set_option maxHeartbeats 1000000 in
theorem clone_any (a : Option Addr) (cap : Nat) (zs : List Int) (w : World) (hr : IsBytes w a zs) (hl : zs.length ≤ 100000000) :
    Calls Try.prog 13 #[.slice a zs.length cap] w (ClonePost zs w) := by
  have q29 : ∀ (w : World) (a : Option Addr) (n c : Nat), (binOp .eql 29 (.slice a n c) (.slice none 0 0)).run Try.prog w = .ok (.bool a.isNone) w := fun w a n c => Lib.run_eql_slice_nil w _ _ a n c 0 0 Try.underlying29
  cases a with
  | none =>
    rcases hr with rfl | ⟨b, off, h, _⟩
    · go_enter Try.func13, Try.ntmps13
      go_wp2
      go_ret
      exact ⟨none, 0, rfl, .inl rfl, Below.refl _ _⟩
    · cases h
  | some a =>
    have hmk0 := run_make_row' (P := Try.prog) 29 5 (.int .u8 0) 1 Try.underlying29 info5 rfl .i64 .i64 zs.length (by omega) (by omega)
    obtain ⟨ROW, hRs, hmk⟩ : ∃ ROW : Array Value, ROW.size = zs.length ∧ ∀ w, (Instr.makeSlice 29 (.int .i64 (zs.length : Int)) (.int .i64 (zs.length : Int))).run Try.prog w = .ok (.slice (some ⟨w.heap.size, 0, none⟩) zs.length zs.length) (w.alloc (.cells ROW 5)) :=
      ⟨_, by rw [size_madeCells], hmk0⟩
    clear hmk0
    by_cases h0 : zs.length = 0
    · have hzs : zs = [] := List.length_eq_zero_iff.1 h0
      subst hzs
      have hmk2 : ∀ w, (Instr.makeSlice 29 (.int .i64 0) (.int .i64 0)).run Try.prog w = .ok (.slice (some ⟨w.heap.size, 0, none⟩) 0 0) (w.alloc (.cells ROW 5)) := fun w => by simpa using hmk w
      have hcp : ∀ ty W, (Builtin.copy_ #[29, 29] ty #[.slice (some ⟨w.heap.size, 0, none⟩) 0 0, .slice (some a) 0 cap]).run Try.prog W = .ok (goInt 0) W := fun ty W => run_copy_none W 29 29 ty 5 _ _ 0 0 0 cap Try.underlying29 size5 rfl
      go_enter Try.func13, Try.ntmps13
      go_wp2_with (at_builtin; refine wpList_copy_run _ rfl _ _ 29 29 rfl _ _ rfl rfl (hcp _ _) ?_)
      go_ret
      exact ⟨_, _, rfl, .inl rfl, (Below.refl _ _).alloc (Nat.le_refl _) _⟩
    · obtain ⟨b, off, e, hb, hrow⟩ := hr.at (k := 0) (by omega)
      cases e
      have hcs : ((zs.map (Value.int .u8)).length) = zs.length := by simp
      have hcp : ∀ ty, (Builtin.copy_ #[29, 29] ty #[.slice (some ⟨w.heap.size, 0, none⟩) zs.length zs.length, .slice (some ⟨b, off, none⟩) zs.length cap]).run Try.prog (w.alloc (.cells ROW 5)) = .ok (goInt (zs.map (Value.int .u8)).length) ((w.alloc (.cells ROW 5)).setRow w.heap.size (ROW.toList.take 0 ++ zs.map (Value.int .u8) ++ ROW.toList.drop (0 + (zs.map (Value.int .u8)).length)).toArray) := fun ty =>
        run_copy_row Try.prog (w.alloc (.cells ROW 5)) 29 29 ty 5 w.heap.size 0 zs.length zs.length ⟨b, off, none⟩ zs.length cap ROW 5 (zs.map (Value.int .u8)) Try.underlying29 size5 (heap_alloc_new w _) (by rw [hcs]; simp) (fun j v hj => by
          rw [List.getElem?_map, Option.map_eq_some_iff] at hj
          obtain ⟨z, hz, rfl⟩ := hj
          rw [Addr.add_lit, World.cell?_alloc_lt _ _ _ hb]
          exact hrow j z hz) (by rw [hcs]; omega) (fun v hv => by
          obtain ⟨z, _, rfl⟩ := List.mem_map.1 hv
          rfl)
      obtain ⟨W, hW⟩ : ∃ W, W = (w.alloc (.cells ROW 5)).setRow w.heap.size (ROW.toList.take 0 ++ zs.map (Value.int .u8) ++ ROW.toList.drop (0 + (zs.map (Value.int .u8)).length)).toArray := ⟨_, rfl⟩
      rw [← hW] at hcp
      have hWb : W.heap[w.heap.size]? = some (.cells (ROW.toList.take 0 ++ zs.map (Value.int .u8) ++ ROW.toList.drop (0 + (zs.map (Value.int .u8)).length)).toArray 5) := by rw [hW]; exact setRow_heap _ _ ROW _ 5 _ (heap_alloc_new w _)
      have HP : ClonePost zs w (.returned (.slice (some ⟨w.heap.size, 0, none⟩) zs.length zs.length)) W := by
        refine ⟨_, _, rfl, .inr ⟨w.heap.size, 0, rfl, (Array.getElem?_eq_some_iff.1 hWb).1, fun i z hz => ?_⟩, ?_⟩
        · have hi : i < zs.length := (List.getElem?_eq_some_iff.1 hz).1
          simp only [World.cell?, hWb]
          simp [List.getElem?_append_left, hi]
          exact (List.getElem?_eq_some_iff.1 hz).2
        · refine ⟨by rw [hW]; rfl, by rw [hW]; rfl, by rw [hW]; rfl, by rw [hW]; simp, fun k hk => ?_⟩
          rw [hW, setRow_other _ _ _ _ (by omega), Below.heap_alloc _ _ _ hk]
      clear hW hWb
      go_enter Try.func13, Try.ntmps13
      go_wp2_with (at_builtin; refine wpList_copy_run _ rfl _ _ 29 29 rfl _ _ rfl rfl (hcp _) ?_)
      go_ret
      exact HP


set_option maxHeartbeats 400000 in
theorem zz15_no (a : Option Addr) (n cap : Nat) (st : Int) (w : World) (h : 1048576 < (n : Int)) : Calls Try.prog 15 #[.slice a n cap, .int .i64 st] w fun e w' => e = .returned (.bool false) ∧ w = w' := by
  go_enter Try.func15, Try.ntmps15
  go_wp2
  go_ret
  exact ⟨rfl, rfl⟩

set_option maxHeartbeats 400000 in
theorem zz15_yes (a : Option Addr) (n cap : Nat) (st : Int) (w : World) (h : (n : Int) ≤ 1048576) : Calls Try.prog 15 #[.slice a n cap, .int .i64 st] w fun e w' => e = .returned (.bool true) ∧ w = w' := by
  go_enter Try.func15, Try.ntmps15
  go_wp2
  go_ret
  exact ⟨rfl, rfl⟩

/-- the run of backslashes just before place j, not reaching back to place s -/
def bs (zs : List Int) (s : Nat) : Nat → Nat
  | 0 => 0
  | j + 1 => if s < j ∧ zs[j]? = some 92 then bs zs s j + 1 else 0

/-- an unescaped quote -/
def Quote (zs : List Int) (s j : Nat) : Prop := zs[j]? = some 34 ∧ bs zs s j % 2 = 0
/-- the first unescaped quote behind s -/
def IsEnd (zs : List Int) (s j : Nat) : Prop := s < j ∧ Quote zs s j ∧ ∀ i, s < i → i < j → ¬ Quote zs s i

def CQPost (zs : List Int) (s : Nat) (w : World) (e : Ending) (w' : World) : Prop :=
  ∃ r : Int, e = .returned (.int .i64 r) ∧ (r = -1 ∨ ∃ j : Nat, r = j ∧ IsEnd zs s j) ∧ w' = w

theorem bs_zero {zs : List Int} {s j : Nat} (h : ¬ (s < j ∧ zs[j]? = some 92)) : bs zs s (j + 1) = 0 := by
  show (if s < j ∧ zs[j]? = some 92 then bs zs s j + 1 else 0) = 0
  rw [if_neg h]
theorem bs_succ {zs : List Int} {s j : Nat} (h : s < j) (h2 : zs[j]? = some 92) : bs zs s (j + 1) = bs zs s j + 1 := by
  show (if s < j ∧ zs[j]? = some 92 then bs zs s j + 1 else 0) = _
  rw [if_pos ⟨h, h2⟩]

set_option maxRecDepth 100000 in
set_option maxHeartbeats 2000000 in
theorem closing_any (a : Option Addr) (cap : Nat) (zs : List Int) (s : Nat) (w : World) (hr : IsBytes w a zs) (hl : zs.length ≤ 1048576) (hs : s < zs.length) :
    Calls Try.prog 16 #[.slice a zs.length cap, .int .i64 s] w (CQPost zs s w) := by
  obtain ⟨b, off, rfl, hb, hrow⟩ := hr.at hs
  have HR := hide1 hrow
  clear hrow hr
  go_enter Try.func16, Try.ntmps16
  go_wp2
  go_loop [5] (fun j => ∃ k : Nat, s < k ∧ k ≤ zs.length ∧ j = .int .i64 k ∧ ∀ i, s < i → i < k → ¬ Quote zs s i) (fun j => zs.length - (intOf j).toNat)
  case atStart => exact ⟨s + 1, by omega, by omega, by go_num, fun i h1 h2 => by omega⟩
  case round =>
    obtain ⟨k, hk1, hk2, rfl, hno⟩ := hrel
    have HN := hide1 hno
    clear hno
    by_cases hlt : k < zs.length
    · obtain ⟨z, hz⟩ : ∃ z, zs[k]? = some z := ⟨_, List.getElem?_eq_getElem hlt⟩
      have c0 := HR.out k z hz
      have HZ := hide1 hz
      clear hz
      by_cases hq : z = 34
      · subst hq
        go_wp2
        go_loop [6, 7] (fun t p => ∃ c q : Nat, t = .int .i64 c ∧ p = .int .i64 q ∧ s ≤ q ∧ q + 1 + c = k ∧ bs zs s k = c + bs zs s (q + 1)) (fun _ p => (intOf p).toNat)
        case atStart => exact ⟨0, k - 1, rfl, by go_num, by omega, by omega, by rw [Nat.zero_add, show k - 1 + 1 = k by omega]⟩
        case round =>
          obtain ⟨c, q, rfl, rfl, hq1, hq2, hq3⟩ := hrel
          have HQ := hide1 (And.intro hq2 hq3)
          have hcb : c ≤ 1048576 := by omega
          have hqb : q < zs.length := by omega
          clear hq2 hq3
          by_cases hsq : s < q
          · obtain ⟨y, hy⟩ : ∃ y, zs[q]? = some y := ⟨_, List.getElem?_eq_getElem (by omega)⟩
            have c1 := HR.out q y hy
            have HY := hide1 hy
            clear hy
            by_cases hb92 : y = 92
            · subst hb92
              go_wp2
              go_round
              case rel =>
                have hst := bs_succ hsq HY.out
                obtain ⟨hq2, hq3⟩ := HQ.out
                exact ⟨c + 1, q - 1, by go_num, by go_num, by omega, by omega, by rw [show q - 1 + 1 = q by omega]; omega⟩
              case measure => simp [intOf]; omega
            · have hb92' : (y == 92) = false := by simpa using hb92
              have hce : c = bs zs s k := by
                have h0 : bs zs s (q + 1) = 0 := bs_zero (fun h => hb92 (by have := HY.out; rw [h.2] at this; cases this; rfl))
                obtain ⟨hq2, hq3⟩ := HQ.out
                omega
              have HC := hide1 hce
              clear hce
              have hcc : (0 : Int) ≤ (c : Int) := by omega
              go_wp2
              · have hev : bs zs s k % 2 = 0 := by
                  have h1 := ‹((c : Int) % 2 == 0) = true›
                  rw [← HC.out]
                  have h2 : (c : Int) % 2 = 0 := by simpa using h1
                  omega
                go_ret
                exact ⟨k, rfl, .inr ⟨k, rfl, hk1, ⟨HZ.out, hev⟩, HN.out⟩, rfl⟩
              · have hev : ¬ bs zs s k % 2 = 0 := by
                  have h1 := ‹((c : Int) % 2 == 0) = false›
                  rw [← HC.out]
                  have h2 : ¬ (c : Int) % 2 = 0 := by simpa using h1
                  omega
                have HV := hide1 hev
                go_round
                case rel =>
                  refine ⟨k + 1, by omega, by omega, by go_num, fun i h1 h2 => ?_⟩
                  rcases Nat.lt_succ_iff_lt_or_eq.1 h2 with h3 | h3
                  · exact HN.out i h1 h3
                  · rw [h3]
                    exact fun hqt => HV.out hqt.2
                case measure => simp [intOf]; omega
          · have hqs : q = s := by omega
            subst hqs
            have hsf : decide ((q : Int) < (q : Int)) = false := by simp
            have hce : c = bs zs q k := by
              have h0 : bs zs q (q + 1) = 0 := bs_zero (fun h => absurd h.1 (Nat.lt_irrefl _))
              obtain ⟨hq2, hq3⟩ := HQ.out
              omega
            have HC := hide1 hce
            clear hce
            have hcc : (0 : Int) ≤ (c : Int) := by omega
            go_wp2
            · have hev : bs zs q k % 2 = 0 := by
                have h1 := ‹((c : Int) % 2 == 0) = true›
                rw [← HC.out]
                have h2 : (c : Int) % 2 = 0 := by simpa using h1
                omega
              go_ret
              exact ⟨k, rfl, .inr ⟨k, rfl, hk1, ⟨HZ.out, hev⟩, HN.out⟩, rfl⟩
            · have hev : ¬ bs zs q k % 2 = 0 := by
                have h1 := ‹((c : Int) % 2 == 0) = false›
                rw [← HC.out]
                have h2 : ¬ (c : Int) % 2 = 0 := by simpa using h1
                omega
              have HV := hide1 hev
              go_round
              case rel =>
                refine ⟨k + 1, by omega, by omega, by go_num, fun i h1 h2 => ?_⟩
                rcases Nat.lt_succ_iff_lt_or_eq.1 h2 with h3 | h3
                · exact HN.out i h1 h3
                · rw [h3]
                  exact fun hqt => HV.out hqt.2
              case measure => simp [intOf]; omega
      · have hq' : (z != 34) = true := by simpa using hq
        go_wp2
        go_round
        case rel =>
          refine ⟨k + 1, by omega, by omega, by go_num, fun i h1 h2 => ?_⟩
          rcases Nat.lt_succ_iff_lt_or_eq.1 h2 with h3 | h3
          · exact HN.out i h1 h3
          · rw [h3]
            intro hqt
            have h4 := hqt.1
            rw [HZ.out] at h4
            cases h4
            exact hq rfl
        case measure => simp [intOf]; omega
    · go_wp2
      go_ret
      exact ⟨-1, rfl, .inl rfl, rfl⟩

set_option maxRecDepth 100000 in
set_option maxHeartbeats 2000000 in
theorem stringEnd_any (a : Option Addr) (cap : Nat) (zs : List Int) (s jj : Nat) (w : World) (hr : IsBytes w a zs) (hl : zs.length ≤ 100000000) (he : IsEnd zs s jj) :
    Calls Try.prog 21 #[.slice a zs.length cap, .int .i64 s] w fun e w' => e = .returned (.int .i64 (jj + 1)) ∧ w = w' := by
  have hjl : jj < zs.length := (List.getElem?_eq_some_iff.1 he.2.1.1).1
  have hsj : s < jj := he.1
  obtain ⟨b, off, rfl, hb, hrow⟩ := hr.at hjl
  have HR := hide1 hrow
  have HE := hide1 he
  clear hrow hr he
  go_enter Try.func21, Try.ntmps21
  go_wp2
  go_loop [5] (fun j => ∃ k : Nat, s < k ∧ k ≤ jj ∧ j = .int .i64 k ∧ bs zs s k % 2 = 0) (fun j => zs.length - (intOf j).toNat)
  case atStart => exact ⟨s + 1, by omega, by omega, by go_num, by rw [bs_zero (fun h => absurd h.1 (Nat.lt_irrefl _))]⟩
  case round =>
    obtain ⟨k, hk1, hk2, rfl, hev⟩ := hrel
    have HV := hide1 hev
    clear hev
    have hlt : k < zs.length := by omega
    obtain ⟨z, hz⟩ : ∃ z, zs[k]? = some z := ⟨_, List.getElem?_eq_getElem hlt⟩
    have c0 := HR.out k z hz
    have HZ := hide1 hz
    clear hz
    by_cases hb92 : z = 92
    · subst hb92
      have h1 := bs_succ hk1 HZ.out
      have hne : k ≠ jj := fun h => by
        have h2 := HE.out.2.1.1
        rw [← h, HZ.out] at h2
        cases h2
      have hne2 : k + 1 ≠ jj := fun h => by
        have h2 := HE.out.2.1.2
        have h3 := HV.out
        rw [← h, h1] at h2
        omega
      have H1 := hide1 h1
      clear h1
      go_wp2
      go_round
      case rel =>
        refine ⟨k + 2, by omega, by omega, by go_num, ?_⟩
        have h3 := HV.out
        by_cases hy : zs[k + 1]? = some 92
        · rw [bs_succ (by omega) hy, H1.out]
          omega
        · rw [bs_zero (fun h => hy h.2)]
      case measure => simp [intOf]; omega
    · have hb92' : (z == 92) = false := by simpa using hb92
      by_cases hq : z = 34
      · subst hq
        have hkj : k = jj := by
          by_cases h : k < jj
          · exact absurd ⟨HZ.out, HV.out⟩ (HE.out.2.2 k hk1 h)
          · omega
        subst hkj
        go_wp2
        go_ret
        exact ⟨rfl, rfl⟩
      · have hq' : (z == 34) = false := by simpa using hq
        go_wp2
        go_round
        case rel =>
          refine ⟨k + 1, by omega, ?_, by go_num, ?_⟩
          · have hne : k ≠ jj := fun h => by
              have h2 := HE.out.2.1.1
              rw [← h, HZ.out] at h2
              cases h2
              exact hq rfl
            omega
          · rw [bs_zero (fun h => hb92 (by have h2 := HZ.out; rw [h.2] at h2; cases h2; rfl))]
        case measure => simp [intOf]; omega

end Go.Proofs.Qxb6601109a
