/-
  Seat b6600954a: the argument '[]FragB1', opened: what the walks are told of it.
-/
import Derived.Test.Qxb6600954aLeaf1
import Derived.ProofKit
import Derived.Deep.Slices
namespace Go.Proofs.Qxb6600954a
open Go.ChangeShapes Go.WideShapes Go.ChangeAt Go.RowKit Go.Deep

theorem Try.own : ownKnob Try.prog.godebug = none := by kernel_rfl
theorem Try.laidOut : laidOutB Try.prog = true := by kernel_rfl
theorem Try.cells36 : Try.prog.cellsOf 36 = 5 := by kernel_rfl
theorem Try.cells3 : Try.prog.cellsOf 3 = 1 := by kernel_rfl
theorem Try.cells4 : Try.prog.cellsOf 4 = 1 := by kernel_rfl
theorem Try.cells9 : Try.prog.cellsOf 9 = 1 := by kernel_rfl

theorem frag_inhabited : Nonempty Frag := ⟨⟨0, false, ⟨#[]⟩, ⟨#[]⟩, ⟨#[]⟩⟩⟩

section
variable {H : Type} {enc : TypeId × Value → H} {w : World} {base : Nat} {spare : Nat → Bool} {held : Bool}

/-- one fragment, from its cells -/
theorem open_frag {fuel : Nat} {cs : List Value} {x : DataW H × List MemPlace} (h : DataW.trod enc Try.prog w base spare held fuel 36 cs = some x) :
    ∃ f : Frag, cs = [.int .i64 f.index, .bool f.has, .string f.id, .string f.name, .string f.args] := by
  obtain ⟨xs, n, _, _, hl, hxl, hf⟩ := DataW.trod_struct Try.underlying36 h
  rw [Try.cells36] at hl
  match cs, hl with
  | [v0, v1, v2, v3, v4], _ =>
    match xs, hxl with
    | [y0, y1, y2, y3, y4], _ =>
      have g0 := hf 0 _ rfl
      have g1 := hf 1 _ rfl
      have g2 := hf 2 _ rfl
      have g3 := hf 3 _ rfl
      have g4 := hf 4 _ rfl
      simp [Try.cells3, Try.cells4, Try.cells9] at g0 g1 g2 g3 g4
      obtain ⟨i, e0, _⟩ := DataW.trod_int Try.underlying3 g0
      obtain ⟨b, e1, _⟩ := DataW.trod_bool Try.underlying4 g1
      obtain ⟨s2, e2, _⟩ := DataW.trod_string Try.underlying9 g2
      obtain ⟨s3, e3, _⟩ := DataW.trod_string Try.underlying9 g3
      obtain ⟨s4, e4, _⟩ := DataW.trod_string Try.underlying9 g4
      simp at e0 e1 e2 e3 e4
      exact ⟨⟨i, b, s2, s3, s4⟩, by rw [e0, e1, e2, e3, e4]⟩

/-- the slice of fragments -/
theorem open_frags {fuel : Nat} {a : Option Addr} {len cap : Nat} {x : DataW H × List MemPlace} (h : DataW.trod enc Try.prog w base spare held fuel 22 [.slice a len cap] = some x) :
    ∃ fs : List Frag, fs.length = len ∧ IsFrags w a fs ∧ len ≤ maxLen := by
  rcases open_slice Try.underlying22 h with ⟨hcs, _⟩ | ⟨ad, len', cap', m, n, D, Pl, hcs, hb, hl, hm, hmm, hx, hel⟩
  · simp at hcs
    obtain ⟨rfl, rfl, rfl⟩ := hcs
    exact ⟨[], rfl, .inl rfl, by unfold maxLen; omega⟩
  · simp at hcs
    obtain ⟨rfl, rfl, rfl⟩ := hcs
    have hlm : len ≤ m := by rw [hmm]; split <;> omega
    have key : ∀ i, i < len → ∃ f : Frag, w.cell? (ad.add (i * 5)) = some (.int .i64 f.index) ∧ w.cell? (ad.add (i * 5 + 1)) = some (.bool f.has) ∧ w.cell? (ad.add (i * 5 + 2)) = some (.string f.id) ∧
        w.cell? (ad.add (i * 5 + 3)) = some (.string f.name) ∧ w.cell? (ad.add (i * 5 + 4)) = some (.string f.args) := by
      intro i hi
      obtain ⟨cs, h1, h2⟩ := hel i (by omega)
      obtain ⟨f, rfl⟩ := open_frag h2
      rw [Try.cells36] at h1
      obtain ⟨_, _, hc⟩ := World.cells?_some h1
      refine ⟨f, ?_, ?_, ?_, ?_, ?_⟩
      · have := hc 0 (by omega); rw [add_add] at this; simpa using this
      · have := hc 1 (by omega); rw [add_add] at this; simpa using this
      · have := hc 2 (by omega); rw [add_add] at this; simpa using this
      · have := hc 3 (by omega); rw [add_add] at this; simpa using this
      · have := hc 4 (by omega); rw [add_add] at this; simpa using this
    haveI : Inhabited Frag := ⟨⟨0, false, ⟨#[]⟩, ⟨#[]⟩, ⟨#[]⟩⟩⟩
    obtain ⟨F, hF⟩ := choose_lt key
    refine ⟨(List.range len).map F, by simp, ?_, Nat.le_trans hl hm⟩
    by_cases h0 : len = 0
    · subst h0; exact .inl rfl
    · obtain ⟨b, off, spot⟩ := ad
      have hspot : spot = none := by
        have := World.cell?_spot (hF 0 (by omega)).1
        simpa [Addr.add] using this
      subst hspot
      refine .inr ⟨b, off, rfl, ?_, fun i f hf => ?_⟩
      · have := World.block_lt_of_cell? _ _ (hF 0 (by omega)).1
        simpa [Addr.add] using this
      · rw [List.getElem?_map, Option.map_eq_some_iff] at hf
        obtain ⟨j, hj, rfl⟩ := hf
        have hj' := List.getElem?_eq_some_iff.1 hj
        obtain ⟨hlt, e⟩ := hj'
        simp at e hlt
        subst e
        have := hF i hlt
        simp only [add_plain] at this
        simpa [Nat.add_assoc] using this
end

end Go.Proofs.Qxb6600954a
