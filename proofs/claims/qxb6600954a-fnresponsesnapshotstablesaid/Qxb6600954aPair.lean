/-
  Seat b6600954a: the assembly and the model side by side (laws 3 and 4).
-/
import Derived.Test.Qxb6600954aMatch
import Derived.Test.Qxb6600954aLawA
namespace Go.Proofs.Qxb6600954a
open Go.RowKit

structure Pair (B A S : Nat) (mo fi : ByteArray) (a : Option Addr) (fs done : List Frag) (w : World) (s : St) (ph : Phys) (ms : MSt) (pm : Phys) (wr : World) : Prop where
  feed : Feed B A mo fi a fs done w s ph wr
  model : MHolds B S ms pm wr
  apart : ∀ k, ph.lab k = none ∨ pm.lab k = none
  frm : FragsIn a fs pm wr
  mat : Match s ms

/-- behind ZZAddToolCallB1, ahead of modelAddB1 -/
structure Half (B A S : Nat) (mo fi : ByteArray) (a : Option Addr) (fs done : List Frag) (f : Frag) (w : World) (s : St) (ph : Phys) (ms : MSt) (pm : Phys) (wr : World) : Prop where
  feed : Feed B A mo fi a fs (done ++ [f]) w s ph wr
  model : MHolds B S ms pm wr
  apart : ∀ k, ph.lab k = none ∨ pm.lab k = none
  frm : FragsIn a fs pm wr
  next : ∀ k ms1 c, MPick ms f k ms1 → ms1.calls[k]? = some c → Match s (ms1.put k (mTouch f c))
  len : ms.calls.length ≤ done.length
  sizes : ∀ c ∈ ms.calls, c.args.size ≤ fsum done

theorem FragsIn.keep {a : Option Addr} {fs : List Frag} {p p' q : Phys} {w w' : World} (h : FragsIn a fs q w) (h2 : FragsIn a fs p w) (g : Grows p w p' w') : FragsIn a fs q w' := by
  rcases h with h | ⟨b, h1, h2', h3, h4⟩
  · exact .inl h
  · rcases h2 with h2 | ⟨b', e1, e2, e3, e4⟩
    · exact .inl h2
    · rw [h1] at e1
      cases e1
      exact .inr ⟨b, h1, Nat.lt_of_lt_of_le h2' g.size, h3, h4.same (g.block b h2' e3)⟩

theorem Below.grows {w w' : World} (h : Below w.heap.size w w') (p : Phys) : Grows p w p w' := ⟨h.os, h.tape, h.output, h.size, fun k hk _ => h.block k hk, fun _ _ => rfl⟩

section
variable {B A S : Nat} {mo fi : ByteArray} {a : Option Addr} {fs done : List Frag} {w : World} {s : St} {ph : Phys} {ms : MSt} {pm : Phys} {wr : World}

theorem Feed.quiet (h : Feed B A mo fi a fs done w s ph wr) {wr' : World} (hb : Below wr.heap.size wr wr') : Feed B A mo fi a fs done w s ph wr' :=
  h.grow h.size (h.holds.frame hb.size (fun k l hk => hb.block k (h.holds.labs k l hk).2)) (Below.grows hb ph)

theorem Pair.quiet (h : Pair B A S mo fi a fs done w s ph ms pm wr) {wr' : World} (hb : Below wr.heap.size wr wr') : Pair B A S mo fi a fs done w s ph ms pm wr' :=
  ⟨h.feed.quiet hb, h.model.frame hb.size (fun k l hk => hb.block k (h.model.labs k l hk).2), h.apart, h.frm.grow (Below.grows hb pm), h.mat⟩

theorem Pair.sizes (h : Pair B A S mo fi a fs done w s ph ms pm wr) : ms.calls.length ≤ done.length ∧ ∀ c ∈ ms.calls, c.args.size ≤ fsum done := by
  refine ⟨by rw [← h.mat.length]; exact h.feed.good.count, fun c hc => ?_⟩
  obtain ⟨k, hk⟩ := List.getElem?_of_mem hc
  obtain ⟨i, p, _, h2, h3⟩ := h.mat.of hk
  have := args_le h.feed.good (List.mem_of_getElem? h2)
  rw [← h3]
  exact this

theorem Pair.half (h : Pair B A S mo fi a fs done w s ph ms pm wr) {f : Frag} {N : Nat} {ph' : Phys} {w1 : World} (hN : wr.heap.size ≤ N) (h1 : Holds B A mo fi (addF N s f) ph' w1) (h2 : NmOk ph'.nm (addF N s f)) (h3 : Grows ph wr ph' w1) :
    Half B A S mo fi a fs done f w (addF N s f) ph' ms pm w1 := by
  have hne : ∀ q ∈ s.calls, q.blk ≠ N := fun q hq e => by have := (h.feed.holds.labs _ _ (h.feed.holds.labCall q hq)).2; omega
  have hpm : ∀ k l, pm.lab k = some l → ph.lab k = none := fun k l hk => (h.apart k).resolve_right (by rw [hk]; simp)
  refine ⟨⟨h1, h2, h.feed.good.step f h.feed.holds.nodup hne, h.feed.frags.grow h3, h.feed.below.trans (h3.below h.feed.size fun k l hk => (h.feed.holds.labs k l hk).1)⟩, ?_, fun k => ?_, h.frm.keep h.feed.frags h3, fun k ms1 c hp hc => h.mat.step h.feed.good f h.feed.holds.nodup hne hp hc, h.sizes.1, h.sizes.2⟩
  · exact h.model.frame h3.size (fun k l hk => h3.block k (h.model.labs k l hk).2 (hpm k l hk))
  · cases e : pm.lab k with
    | none => exact .inr rfl
    | some l => exact .inl ((h3.lab k (h.model.labs k l e).2).trans (hpm k l e))

theorem Half.full {f : Frag} (h : Half B A S mo fi a fs done f w s ph ms pm wr) {k : Nat} {ms1 : MSt} {c : MC} {pm' : Phys} {w2 : World} (hp : MPick ms f k ms1) (hc : ms1.calls[k]? = some c) (hM : MHolds B S (ms1.put k (mTouch f c)) pm' w2) (hG : Grows pm wr pm' w2) :
    Pair B A S mo fi a fs (done ++ [f]) w s ph (ms1.put k (mTouch f c)) pm' w2 := by
  have hph : ∀ k l, ph.lab k = some l → pm.lab k = none := fun k l hk => (h.apart k).resolve_left (by rw [hk]; simp)
  refine ⟨⟨?_, h.feed.names, h.feed.good, h.feed.frags.keep h.frm hG, h.feed.below.trans (hG.below h.feed.size fun k l hk => (h.model.labs k l hk).1)⟩, hM, fun k => ?_, h.frm.grow hG, h.next k ms1 c hp hc⟩
  · exact h.feed.holds.frame hG.size (fun k l hk => hG.block k (h.feed.holds.labs k l hk).2 (hph k l hk))
  · cases e : ph.lab k with
    | none => exact .inl rfl
    | some l => exact .inr ((hG.lab k (h.feed.holds.labs k l e).2).trans (hph k l e))

theorem MHolds.start (B : Nat) (w : World) (hB : B ≤ w.heap.size) : MHolds B w.heap.size ⟨[], -1⟩ (ph0 w.heap.size) (w.alloc (.cells #[.slice none 0 0, .int .i64 (-1)] 31)) where
  box := heap_alloc_new w _
  labS := if_pos rfl
  row := World.ownsRow_nil _ _ _ _
  labRow := fun k hk => by simp [ph0, Value.ownBlock] at hk
  args := fun j c hc => by simp at hc
  labArgs := fun j c hc => by simp at hc
  labs := fun k l hk => by
    simp only [ph0] at hk
    split at hk
    · rename_i e; subst e; exact ⟨hB, by simp⟩
    · cases hk
  latest := .inl rfl

theorem Match.start : Match ⟨[], none⟩ ⟨[], -1⟩ := by
  refine ⟨rfl, fun f => ?_⟩
  unfold mResolve resolve
  split <;> rfl

/-- behind ZZNewAssemblyB1 and the model's start -/
theorem Pair.start {w1 w2 : World} (hb1 : Below w.heap.size w w1) (hb2 : Below w1.heap.size w1 w2)
    (hfr : fs = [] ∨ ∃ b, a = some ⟨b, 0, none⟩ ∧ w1.heap.size ≤ b ∧ b < w2.heap.size ∧ FragRow w2 b 0 fs) :
    Pair w.heap.size w2.heap.size (w2.heap.size + 1) mo fi a fs [] w ⟨[], none⟩ (ph0 w2.heap.size) ⟨[], -1⟩ (ph0 (w2.heap.size + 1)) ((w2.alloc (.cells (asmCells mo fi (.slice none 0 0) none none) 79)).alloc (.cells #[.slice none 0 0, .int .i64 (-1)] 31)) := by
  have hB : w.heap.size ≤ w2.heap.size := Nat.le_trans hb1.size hb2.size
  have hF := Feed.start (mo := mo) (fi := fi) hb1 hb2 hfr
  have hs : (w2.alloc (.cells (asmCells mo fi (.slice none 0 0) none none) 79)).heap.size = w2.heap.size + 1 := by simp
  have hM := MHolds.start w.heap.size (w2.alloc (.cells (asmCells mo fi (.slice none 0 0) none none) 79)) (by omega)
  rw [hs] at hM
  refine ⟨hF.quiet ((Below.refl _ _).alloc (Nat.le_refl _) _), hM, fun k => ?_, ?_, Match.start⟩
  · by_cases e : k = w2.heap.size
    · exact .inr (if_neg (by omega))
    · exact .inl (if_neg e)
  · rcases hfr with h | ⟨b, h1, h2, h3, h4⟩
    · exact .inl h
    · exact .inr ⟨b, h1, by simp; omega, if_neg (by omega), (h4.same (Below.heap_alloc _ _ _ h3)).same (Below.heap_alloc _ _ _ (by omega))⟩

end
end Go.Proofs.Qxb6600954a
