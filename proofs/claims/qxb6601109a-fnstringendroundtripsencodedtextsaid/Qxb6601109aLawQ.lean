/-
  Seat b6601109a: ZZStringEnd (17) and FnStringEndFindsFirstUnescapedQuote (5), walked.
-/
import Derived.Test.Qxb6601109aWalk
namespace Go.Proofs.Qxb6601109a
open Go.RowKit

def TrueBelow (w : World) (e : Ending) (w' : World) : Prop := e = .returned (.bool true) ∧ Below w.heap.size w w'

set_option maxRecDepth 100000 in
set_option maxHeartbeats 1000000 in
theorem zzEnd_any (a : Option Addr) (cap : Nat) (zs : List Int) (s jj : Nat) (w : World) (hr : IsBytes w a zs) (hl : zs.length ≤ 100000000) (he : IsEnd zs s jj) :
    Calls Try.prog 17 #[.slice a zs.length cap, .int .i64 s] w fun e w' => e = .returned (.int .i64 (jj + 1)) ∧ w = w' := by
  have h21 := stringEnd_any a cap zs s jj w hr hl he
  go_enter Try.func17, Try.ntmps17
  go_wp2_with (go_at_call 21; refine h21.mono ?_; rintro e w' ⟨rfl, rfl⟩)
  go_ret
  exact ⟨rfl, rfl⟩

set_option maxRecDepth 100000 in
set_option maxHeartbeats 2000000 in
theorem lawQ_walk (a : Option Addr) (cap : Nat) (zs : List Int) (st : Int) (w : World) (hr : IsBytes w a zs) (hl : zs.length ≤ 9223372036854775807) :
    Calls Try.prog 5 #[.slice a zs.length cap, .int .i64 st] w (TrueBelow w) := by
  by_cases h1 : 1048576 < (zs.length : Int)
  · go_enter Try.func5, Try.ntmps5
    go_wp2_with (go_at_call 15; refine (zz15_no a zs.length cap st _ h1).mono ?_; rintro e w' ⟨rfl, rfl⟩)
    go_ret
    exact ⟨rfl, Below.refl _ _⟩
  have hz15 := zz15_yes a zs.length cap st w (by omega)
  by_cases h2 : st < 0
  · go_enter Try.func5, Try.ntmps5
    go_wp2_with (go_at_call 15; refine hz15.mono ?_; rintro e w' ⟨rfl, rfl⟩)
    go_ret
    exact ⟨rfl, Below.refl _ _⟩
  by_cases h3 : (zs.length : Int) ≤ st
  · go_enter Try.func5, Try.ntmps5
    go_wp2_with (go_at_call 15; refine hz15.mono ?_; rintro e w' ⟨rfl, rfl⟩)
    go_ret
    exact ⟨rfl, Below.refl _ _⟩
  obtain ⟨s, rfl⟩ : ∃ s : Nat, st = s := ⟨st.toNat, by omega⟩
  have hs : s < zs.length := by omega
  have hn : zs.length ≤ 1048576 := by omega
  have hcq := closing_any a cap zs s w hr hn hs
  have hcl := clone_any a cap zs w hr (by omega)
  clear h1 h2 h3 hr hl
  go_enter Try.func5, Try.ntmps5
  go_wp2_with (first
    | (go_at_call 15; refine hz15.mono ?_; rintro e w' ⟨rfl, rfl⟩)
    | (go_at_call 16; refine hcq.mono ?_; rintro e w' ⟨r, rfl, rfl | ⟨jj, rfl, he⟩, rfl⟩))
  · go_ret
    exact ⟨rfl, Below.refl _ _⟩
  · have hjl : jj < zs.length := (List.getElem?_eq_some_iff.1 he.2.1.1).1
    have HE := hide1 he
    clear he
    go_wp2_with (first
      | (go_at_call 13; refine hcl.mono ?_; rintro e w1 ⟨a1, c1, rfl, hfr, hb⟩; have HF := hide1 hfr; have HB := hide1 hb; clear hfr hb)
      | (go_at_call 17; refine (zzEnd_any _ _ zs s jj _ HF.out (by omega) HE.out).mono ?_; rintro e w2 ⟨rfl, rfl⟩))
    go_ret
    exact ⟨rfl, HB.out⟩

end Go.Proofs.Qxb6601109a
