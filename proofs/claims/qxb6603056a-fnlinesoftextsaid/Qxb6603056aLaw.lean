/-
  Seat b6603056a: FnLinesOfText (7), walked.
-/
import Derived.Test.Qxb6603056aWalk
namespace Go.Proofs.Qxb6603056a
open Go.RowKit

theorem hide1 {p : Prop} (h : p) : Hid p := h

/-- the line breaks among the first k bytes -/
def nl (zs : List Int) (k : Nat) : Nat := (zs.take k).countP fun z => z == 10
theorem nl_succ (zs : List Int) (k : Nat) (z : Int) (h : zs[k]? = some z) : nl zs (k + 1) = nl zs k + if z = 10 then 1 else 0 := by
  unfold nl
  rw [List.take_add_one, h]
  simp [List.countP_cons]
theorem nl_le (zs : List Int) (k : Nat) : nl zs k ≤ k := by
  unfold nl
  have := List.countP_le_length (p := fun z : Int => z == 10) (l := zs.take k)
  rw [List.length_take] at this
  omega

/-- the places where a line starts among the first k bytes -/
def starts (zs : List Int) : Nat → Nat
  | 0 => 0
  | k + 1 => 1 + nl zs k

def TrueBelow (w : World) (e : Ending) (w' : World) : Prop := e = .returned (.bool true) ∧ Below w.heap.size w w'

theorem lines_eq (zs : List Int) (m : Nat) (z : Int) (h : zs[m]? = some z) : linesF (nl zs (m + 1)) (z != 10) = (starts zs (m + 1) : Nat) := by
  rw [nl_succ zs m z h]
  unfold linesF starts
  by_cases e : z = 10
  · subst e
    simp
    omega
  · have : (z != 10) = true := by simpa using e
    simp [e]
    omega

set_option maxRecDepth 100000 in
set_option maxHeartbeats 4000000 in
theorem law_walk (a : Option Addr) (cap : Nat) (zs : List Int) (w : World) (hr : IsBytes w a zs) (hl : zs.length ≤ 9223372036854775807) :
    Calls Try.prog 7 #[.slice a zs.length cap] w (TrueBelow w) := by
  by_cases h1 : 1048576 < (zs.length : Int)
  · go_enter Try.func7, Try.ntmps7
    go_wp2_with (go_at_call 17; refine (zz_no a zs.length cap _ h1).mono ?_; rintro e w' ⟨rfl, rfl⟩)
    go_ret
    exact ⟨rfl, Below.refl _ _⟩
  have hz17 := zz_yes a zs.length cap w (by omega)
  by_cases h2 : 65536 < (zs.length : Int)
  · go_enter Try.func7, Try.ntmps7
    go_wp2_with (go_at_call 17; refine hz17.mono ?_; rintro e w' ⟨rfl, rfl⟩)
    go_ret
    exact ⟨rfl, Below.refl _ _⟩
  have hn : zs.length ≤ 65536 := by omega
  have hcl := clone_any a cap zs w hr (by omega)
  clear h1 hr hl
  go_enter Try.func7, Try.ntmps7
  go_wp2_with (first
    | (go_at_call 17; refine hz17.mono ?_; rintro e w' ⟨rfl, rfl⟩)
    | (go_at_call 9; refine hcl.mono ?_; rintro e w1 ⟨a1, c1, rfl, hfr, hb⟩))
  go_loop [3, 4] (fun t i => ∃ k : Nat, k ≤ zs.length ∧ i = .int .i64 k ∧ t = .int .i64 (nl zs k)) (fun _ i => zs.length - (intOf i).toNat)
  case atStart => exact ⟨0, Nat.zero_le _, rfl, rfl⟩
  case round =>
    obtain ⟨k, hk, rfl, rfl⟩ := hrel
    have hnk := nl_le zs k
    by_cases hlt : k < zs.length
    · rcases hfr with rfl | ⟨b, rfl, hbl, hrow⟩
      · simp at hlt
      obtain ⟨z, hz⟩ : ∃ z, zs[k]? = some z := ⟨_, List.getElem?_eq_getElem hlt⟩
      have c0 := hrow k z hz
      have HS := hide1 (nl_succ zs k z hz)
      have HB := hide1 hrow
      clear hrow hz
      go_wp2_with fail
      · have e : z = 10 := eq_of_beq ‹(z == 10) = true›
        go_round
        case rel => exact ⟨k + 1, by omega, by go_num, by rw [HS.out, if_pos e]; go_num⟩
        case measure => simp [intOf]; omega
      · have e : ¬ z = 10 := ne_of_beq_false ‹(z == 10) = false›
        go_round
        case rel => exact ⟨k + 1, by omega, by go_num, by rw [HS.out, if_neg e]; go_num⟩
        case measure => simp [intOf]; omega
    · obtain rfl : k = zs.length := by omega
      clear hk hlt hnk
      rcases Nat.eq_zero_or_pos zs.length with h0 | h0
      · have hzs : zs = [] := List.length_eq_zero_iff.1 h0
        subst hzs
        have hnl : nl [] 0 = 0 := rfl
        rw [show ([] : List Int).length = 0 from rfl, hnl]
        clear hnl
        have hz18 := fun W => zzLines_any 0 false W (by omega) (by omega)
        have hlf : linesF 0 false = 1 := by simp [linesF]
        go_wp2_with fail
        go_loop [6, 7] (fun t j => t = .int .i64 0 ∧ j = .int .i64 0) (fun _ _ => 0)
        case atStart => exact ⟨rfl, rfl⟩
        case round =>
          obtain ⟨rfl, rfl⟩ := hrel
          go_wp2_with (go_at_call 18; refine (hz18 _).mono ?_; rintro e w' ⟨rfl, rfl⟩)
          go_ret
          exact ⟨rfl, hb.alloc hb.size _⟩
      · rcases hfr with rfl | ⟨b, rfl, hbl, hrow⟩
        · simp at h0
        obtain ⟨m, hm⟩ : ∃ m, zs.length = m + 1 := ⟨zs.length - 1, by omega⟩
        obtain ⟨z, hz⟩ : ∃ z, zs[m]? = some z := ⟨_, List.getElem?_eq_getElem (by omega)⟩
        have c0 := hrow m z hz
        have heq := lines_eq zs m z hz
        have HEQ := hide1 heq
        have HB := hide1 hrow
        have HM := hide1 hm
        have hnm := nl_le zs (m + 1)
        have hz18 := fun W => zzLines_any (nl zs (m + 1)) (z != 10) W (by omega) (by omega)
        rw [heq] at hz18
        have hd : (0 : Int) < (zs.length : Int) := by omega
        have hm3 : (m : Int) ≤ 65535 := by omega
        have hd2 : decide ((65536 : Int) < (m : Int) + 1) = false := decide_eq_false (by omega)
        rw [hm]
        rw [hm] at hd
        clear hrow hz heq hm h0 hn h2
        go_wp2_with fail
        go_loop [6, 7] (fun t j => ∃ k : Nat, k ≤ m + 1 ∧ j = .int .i64 k ∧ t = .int .i64 (starts zs k)) (fun _ j => m + 1 - (intOf j).toNat)
        case atStart => exact ⟨0, Nat.zero_le _, rfl, rfl⟩
        case round =>
          obtain ⟨k, hk, rfl, rfl⟩ := hrel
          by_cases hlt : k < m + 1
          · cases k with
            | zero =>
              have hb0 : (starts zs 0 : Int) ≤ 1 := by simp [starts]
              go_wp2_with fail
              go_round
              case rel => exact ⟨1, by omega, rfl, by simp [starts, nl]⟩
              case measure => simp [intOf]
            | succ q =>
              obtain ⟨y, hy⟩ : ∃ y, zs[q]? = some y := ⟨_, List.getElem?_eq_getElem (by have := HM.out; omega)⟩
              have c1 := HB.out q y hy
              have HS := hide1 (nl_succ zs q y hy)
              have hnq := nl_le zs q
              have hs1 : starts zs (q + 1) = 1 + nl zs q := rfl
              have hs2 : starts zs (q + 1 + 1) = 1 + nl zs (q + 1) := rfl
              have HS1 := hide1 hs1
              have HS2 := hide1 hs2
              have hb1 : (starts zs (q + 1) : Int) ≤ 65536 := by omega
              clear hy hs1 hs2
              have hq0 : ((q : Int) + 1 == 0) = false := by simp; omega
              go_wp2_with fail
              · have e : y = 10 := by first | assumption | exact eq_of_beq (by assumption)
                go_round
                case rel => exact ⟨q + 1 + 1, by omega, by go_num, by rw [HS2.out, HS1.out, HS.out, if_pos e]; go_num⟩
                case measure => simp [intOf]; omega
              · have e : ¬ y = 10 := by first | assumption | exact ne_of_beq_false (by assumption)
                go_round
                case rel => exact ⟨q + 1 + 1, by omega, by go_num, by rw [HS2.out, HS1.out, HS.out, if_neg e]; go_num⟩
                case measure => simp [intOf]; omega
          · obtain rfl : k = m + 1 := by omega
            have hsp : ((starts zs (m + 1) : Int) == 0) = false := by simp [starts]; omega
            go_wp2_with (go_at_call 18; refine (hz18 _).mono ?_; rintro e w' ⟨rfl, rfl⟩)
            go_ret
            exact ⟨by simp, hb.alloc hb.size _⟩

end Go.Proofs.Qxb6603056a
