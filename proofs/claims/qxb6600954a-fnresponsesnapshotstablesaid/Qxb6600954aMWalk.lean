/-
  Seat b6600954a: modelResolve (23) and modelLastAt (24), walked.
-/
import Derived.Test.Qxb6600954aModel
import Derived.Test.Qxb6600954aAdd
import Derived.BigQuiet
namespace Go.Proofs.Qxb6600954a
open Go.RowKit

/-- the place of the last call at index idx among the first k, or -1 -/
def mLastTo (cs : List MC) (idx : Int) : Nat → Int
  | 0 => -1
  | k + 1 => if (cs[k]?.map MC.index) = some idx then k else mLastTo cs idx k

theorem mLastTo_lt (cs : List MC) (idx : Int) : ∀ k, mLastTo cs idx k < k
  | 0 => by simp [mLastTo]
  | k + 1 => by
    have := mLastTo_lt cs idx k
    unfold mLastTo
    split <;> omega

section
variable {B S : Nat} {s : MSt} {ph : Phys} {w : World}

def LastPost (r : Int) (w : World) (e : Ending) (w' : World) : Prop := e = .returned (.int .i64 r) ∧ w' = w

theorem MHolds.box0 (h : MHolds B S s ph w) : w.cell? ⟨S, 0, none⟩ = some ph.cv := by simp [World.cell?, h.box]
theorem MHolds.box1 (h : MHolds B S s ph w) : w.cell? ⟨S, 1, none⟩ = some (.int .i64 s.latest) := by simp [World.cell?, h.box]
theorem MHolds.cvIs (h : MHolds B S s ph w) : ∃ a cap, ph.cv = .slice a s.calls.length cap := by
  rcases h.row.2 with ⟨h1, h2⟩ | ⟨g, cap, cur, h1, _⟩
  · exact ⟨none, 0, by rw [h1, h2]⟩
  · exact ⟨_, _, h1⟩

set_option maxRecDepth 100000 in
set_option maxHeartbeats 1000000 in
theorem mLast_any (h : MHolds B S s ph w) (idx : Int) (hn : s.calls.length ≤ 100000) : Calls Try.prog 24 #[.pointer (some ⟨S, 0, none⟩), .int .i64 idx] w (LastPost (mLastTo s.calls idx s.calls.length) w) := by
  obtain ⟨a, cap, hcv⟩ := h.cvIs
  have c0 := h.box0
  rw [hcv] at c0
  have HH := hide1 h
  have HC := hide1 hcv
  clear h hcv
  go_enter Try.func24, Try.ntmps24
  go_wp2
  go_loop [5, 6] (fun t i => ∃ k : Nat, k ≤ s.calls.length ∧ i = .int .i64 k ∧ t = .int .i64 (mLastTo s.calls idx k)) (fun _ i => s.calls.length - (intOf i).toNat)
  case atStart => exact ⟨0, Nat.zero_le _, rfl, rfl⟩
  case round =>
    obtain ⟨k, hk, rfl, rfl⟩ := hrel
    by_cases hlt : k < s.calls.length
    · obtain ⟨c, hc⟩ : ∃ c, s.calls[k]? = some c := ⟨_, List.getElem?_eq_getElem hlt⟩
      obtain ⟨g, cap', hcv, _, hcells⟩ := HH.out.rowAt hc
      rw [HC.out] at hcv
      cases hcv
      have c1 : w.cell? ⟨g, k * 4 + 0, none⟩ = some (.int .i64 c.index) := hcells 0 (by omega)
      rw [Nat.add_zero] at c1
      have hst : mLastTo s.calls idx (k + 1) = if c.index = idx then (k : Int) else mLastTo s.calls idx k := by
        show (if (s.calls[k]?.map MC.index) = some idx then (k : Int) else _) = _
        rw [hc]
        simp
      have HS := hide1 hst
      clear hst hcells hc
      go_wp2
      · have e : c.index = idx := eq_of_beq ‹(c.index == idx) = true›
        go_round
        case rel => exact ⟨k + 1, by omega, by go_num, by rw [HS.out, if_pos e]⟩
        case measure => simp [intOf]; omega
      · have e : ¬ c.index = idx := ne_of_beq_false ‹(c.index == idx) = false›
        go_round
        case rel => exact ⟨k + 1, by omega, by go_num, by rw [HS.out, if_neg e]⟩
        case measure => simp [intOf]; omega
    · have e : k = s.calls.length := by omega
      subst e
      go_wp2
      go_ret
      exact ⟨rfl, rfl⟩

/-- the index that a fragment asks for -/
def mResolve (s : MSt) (f : Frag) : Int := if f.has = true then f.index else match s.calls[s.latest.toNat]? with
  | some c => if 0 ≤ s.latest then c.index else 0
  | none => 0

def ResPost (r : Int) (f : Frag) (w : World) (e : Ending) (w' : World) : Prop := e = .returned (.int .i64 r) ∧ ∃ n, w' = (w.alloc (.cells f.cells 36)).drewN n

set_option maxRecDepth 100000 in
set_option maxHeartbeats 1000000 in
theorem mResolve_any (h : MHolds B S s ph w) (f : Frag) (_hn : s.calls.length ≤ 100000) : Calls Try.prog 23 #[.pointer (some ⟨S, 0, none⟩), .agg f.cells] w (ResPost (mResolve s f) f w) := by
  have hS := (h.labs _ _ h.labS).2
  have c1 := h.box1
  by_cases hh : f.has = true
  · have e : mResolve s f = f.index := by unfold mResolve; rw [if_pos hh]
    rw [e]
    clear e
    obtain ⟨fi, fh, fid, fn, fa⟩ := f
    simp only at hh
    subst hh
    go_enter Try.func23, Try.ntmps23
    go_wp2
    go_ret
    exact ⟨rfl, 0, rfl⟩
  · obtain ⟨fi, fh, fid, fn, fa⟩ := f
    have hf : fh = false := by simpa using hh
    subst hf
    clear hh
    rcases h.latest with hl | ⟨j, hl, hj⟩
    · have e : mResolve s ⟨fi, false, fid, fn, fa⟩ = 0 := by
        unfold mResolve
        rw [hl]
        simp
        split <;> rfl
      rw [e]
      clear e
      rw [hl] at c1
      go_enter Try.func23, Try.ntmps23
      go_wp2
      go_ret
      exact ⟨rfl, 0, rfl⟩
    · obtain ⟨c, hc⟩ : ∃ c, s.calls[j]? = some c := ⟨_, List.getElem?_eq_getElem hj⟩
      have e : mResolve s ⟨fi, false, fid, fn, fa⟩ = c.index := by
        unfold mResolve
        rw [hl]
        simp [hc]
      rw [e]
      clear e
      obtain ⟨g, cap', hcv, hgl, hcells⟩ := h.rowAt hc
      have hg := (h.labs _ _ hgl).2
      have c2 : w.cell? ⟨g, j * 4 + 0, none⟩ = some (.int .i64 c.index) := hcells 0 (by omega)
      rw [Nat.add_zero] at c2
      have c0 := h.box0
      rw [hcv] at c0
      rw [hl] at c1
      clear hcells hc hcv hl h
      go_enter Try.func23, Try.ntmps23
      go_wp2_with fail
      go_region
      go_wp2
      go_ret
      exact ⟨rfl, 1, rfl⟩

end

end Go.Proofs.Qxb6600954a
