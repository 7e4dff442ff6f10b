/-
  Seat b6600954a: hasPrefix (37), sameCalls (36), sameResponse (35), walked.
-/
import Derived.Test.Qxb6600954aLawB
namespace Go.Proofs.Qxb6600954a
open Go.RowKit

def Yes (w : World) (e : Ending) (w' : World) : Prop := e = .returned (.bool true) ∧ ∃ n, w' = w.drewN n

theorem pre_get {p t : ByteArray} {k : Nat} (h : k < p.size) (h2 : k < (p ++ t).size) : (p ++ t)[k]'h2 = p[k]'h := by
  exact ByteArray.getElem_append_left h

set_option maxRecDepth 100000 in
set_option maxHeartbeats 1000000 in
theorem hasPrefix_any (p t : ByteArray) (w : World) (hs : (p ++ t).size ≤ 1000000000) : Calls Try.prog 37 #[.string (p ++ t), .string p] w (Yes w) := by
  have hle : p.size ≤ (p ++ t).size := by rw [ByteArray.size_append]; omega
  have hg : ∀ k (h1 : k < p.size) (h2 : k < (p ++ t).size), (p ++ t)[k]'h2 = p[k]'h1 := fun k h1 h2 => pre_get h1 h2
  obtain ⟨s, hse⟩ : ∃ s, s = p ++ t := ⟨_, rfl⟩
  rw [← hse] at hle hg hs ⊢
  clear hse
  go_enter Try.func37, Try.ntmps37
  go_wp2_with fail
  go_loopw [5] (fun i wr => ∃ k n : Nat, k ≤ p.size ∧ i = .int .i64 k ∧ wr = w.drewN n) (fun i _ => p.size - (intOf i).toNat)
  case atStart => exact ⟨0, 0, Nat.zero_le _, rfl, rfl⟩
  case round =>
    obtain ⟨k, n, hk, rfl, rfl⟩ := hrel
    by_cases hlt : k < p.size
    · have hlt2 : k < s.size := by omega
      have hgk : s[k] = p[k] := hg k hlt hlt2
      have HG := hide1 hg
      clear hg
      go_wp2_with fail
      go_region
      go_wp2_with fail
      go_roundw
      case rel => exact ⟨k + 1, n + 1, by omega, by go_num, rfl⟩
      case measure => simp [intOf]; omega
    · go_wp2_with fail
      go_ret
      exact ⟨rfl, n, rfl⟩

def CRow (W : World) (g : Nat) (cs : List Call) : Prop :=
  ∀ i p, cs[i]? = some p → W.cell? ⟨g, i * 3, none⟩ = some (.string p.id) ∧ W.cell? ⟨g, i * 3 + 1, none⟩ = some (.string p.name) ∧ W.cell? ⟨g, i * 3 + 2, none⟩ = some (.string (argOut p.args))

set_option maxRecDepth 100000 in
set_option maxHeartbeats 1000000 in
theorem sameCalls_any (g h c1 c2 : Nat) (cs : List Call) (w : World) (_hg : g < w.heap.size) (_hh : h < w.heap.size) (r1 : CRow w g cs) (r2 : CRow w h cs) (hn : cs.length ≤ 100000) :
    Calls Try.prog 36 #[.slice (some ⟨g, 0, none⟩) cs.length c1, .slice (some ⟨h, 0, none⟩) cs.length c2] w (Yes w) := by
  have R1 := hide1 r1
  have R2 := hide1 r2
  clear r1 r2
  go_enter Try.func36, Try.ntmps36
  go_wp2_with fail
  go_loopw [5] (fun i wr => ∃ k n : Nat, k ≤ cs.length ∧ i = .int .i64 k ∧ wr = w.drewN n) (fun i _ => cs.length - (intOf i).toNat)
  case atStart => exact ⟨0, 0, Nat.zero_le _, rfl, rfl⟩
  case round =>
    obtain ⟨k, n, hk, rfl, rfl⟩ := hrel
    by_cases hlt : k < cs.length
    · obtain ⟨p, hp⟩ : ∃ p, cs[k]? = some p := ⟨_, List.getElem?_eq_getElem hlt⟩
      obtain ⟨a0, a1, a2⟩ := R1.out k p hp
      obtain ⟨b0, b1, b2⟩ := R2.out k p hp
      clear hp
      obtain ⟨ao, hao⟩ : ∃ ao, ao = argOut p.args := ⟨_, rfl⟩
      rw [← hao] at a2 b2
      clear hao
      go_wp2_with fail
      go_quiet (fail)
      go_wp2_with fail
      go_roundw
      case rel => exact ⟨k + 1, n + nq, by omega, by go_num, by simp⟩
      case measure => simp [intOf]; omega
    · go_wp2_with fail
      go_ret
      exact ⟨rfl, n, rfl⟩

def Yes2 (w : World) (e : Ending) (w' : World) : Prop := e = .returned (.bool true) ∧ Below w.heap.size w w'

theorem CRow.below {W W' : World} {g : Nat} {cs : List Call} (h : CRow W g cs) (hg : g < W.heap.size) (hb : Below W.heap.size W W') : CRow W' g cs := fun i p hp => by
  obtain ⟨h0, h1, h2⟩ := h i p hp
  exact ⟨by rw [hb.cell (p := ⟨g, _, none⟩) hg]; exact h0, by rw [hb.cell (p := ⟨g, _, none⟩) hg]; exact h1, by rw [hb.cell (p := ⟨g, _, none⟩) hg]; exact h2⟩

set_option maxRecDepth 100000 in
set_option maxHeartbeats 2000000 in
theorem sameResponse_any (mo fi : ByteArray) (g h c1 c2 : Nat) (cs : List Call) (w : World) (hg : g < w.heap.size) (hh : h < w.heap.size) (r1 : CRow w g cs) (r2 : CRow w h cs) (hn : cs.length ≤ 100000) :
    Calls Try.prog 35 #[.agg (respCells mo fi g cs.length c1), .agg (respCells mo fi h cs.length c2)] w (Yes2 w) := by
  have hsc : ∀ o1 o2, Calls Try.prog 36 #[.slice (some ⟨g, 0, none⟩) cs.length c1, .slice (some ⟨h, 0, none⟩) cs.length c2] ((w.alloc o1).alloc o2) (Yes ((w.alloc o1).alloc o2)) := fun o1 o2 => by
    have hb : Below w.heap.size w ((w.alloc o1).alloc o2) := ((Below.refl _ _).alloc (Nat.le_refl _) _).alloc (by simp) _
    exact sameCalls_any g h c1 c2 cs _ (by simp; omega) (by simp; omega) (r1.below hg hb) (r2.below hh hb) hn
  obtain ⟨F, hF⟩ : ∃ F, F = finF fi cs.length := ⟨_, rfl⟩
  unfold respCells
  rw [← hF]
  have HSC := hide1 hsc
  have hbx : ∀ o1 o2 n, Below w.heap.size w (((w.alloc o1).alloc o2).drewN n) := fun o1 o2 n => below_box ((Below.refl _ _).alloc (Nat.le_refl _) o1) (by simp) o2 n
  have HBX := hide1 hbx
  clear hbx
  clear hF r1 r2 hsc
  go_enter Try.func35, Try.ntmps35
  go_wp2_with fail
  refine (HSC.out _ _).mono ?_
  rintro e w' ⟨rfl, n, hw⟩
  have hb : Below w.heap.size w w' := by
    rw [hw]
    exact HBX.out _ _ _
  clear hw
  go_wp2_with fail
  go_ret
  exact ⟨rfl, hb⟩

end Go.Proofs.Qxb6600954a
