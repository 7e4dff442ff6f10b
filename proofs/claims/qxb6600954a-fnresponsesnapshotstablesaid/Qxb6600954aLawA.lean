/-
  Seat b6600954a: FnAddToolCallKeepsInvariants (function 5), walked.
-/
import Derived.Test.Qxb6600954aAcc
import Derived.Test.Qxb6600954aGood
namespace Go.Proofs.Qxb6600954a
open Go.RowKit

/-- the script's clone, out of the assembly's memory -/
def FragsIn (a : Option Addr) (fs : List Frag) (ph : Phys) (w : World) : Prop :=
  fs = [] ∨ ∃ b, a = some ⟨b, 0, none⟩ ∧ b < w.heap.size ∧ ph.lab b = none ∧ FragRow w b 0 fs

theorem FragRow.same {w w' : World} {b off : Nat} {fs : List Frag} (h : FragRow w b off fs) (e : w'.heap[b]? = w.heap[b]?) : FragRow w' b off fs := fun i f hf => by
  have hc : ∀ o, w'.cell? ⟨b, o, none⟩ = w.cell? ⟨b, o, none⟩ := fun o => World.cell?_of_block (w := w) (a := ⟨b, o, none⟩) e
  simpa only [hc] using h i f hf

theorem FragsIn.grow {a : Option Addr} {fs : List Frag} {ph ph' : Phys} {w w' : World} (h : FragsIn a fs ph w) (g : Grows ph w ph' w') : FragsIn a fs ph' w' := by
  rcases h with h | ⟨b, h1, h2, h3, h4⟩
  · exact .inl h
  · exact .inr ⟨b, h1, Nat.lt_of_lt_of_le h2 g.size, (g.lab b h2).trans h3, h4.same (g.block b h2 h3)⟩

theorem FragsIn.at {a : Option Addr} {fs : List Frag} {ph : Phys} {w : World} (h : FragsIn a fs ph w) {k : Nat} (hk : k < fs.length) : ∃ b, a = some ⟨b, 0, none⟩ ∧ b < w.heap.size ∧ ph.lab b = none ∧ FragRow w b 0 fs := by
  rcases h with rfl | h
  · simp at hk
  · exact h

/-- what holds of the world while a script is fed to an assembly -/
structure Feed (B A : Nat) (mo fi : ByteArray) (a : Option Addr) (fs done : List Frag) (w : World) (s : St) (ph : Phys) (wr : World) : Prop where
  holds : Holds B A mo fi s ph wr
  names : NmOk ph.nm s
  good : Good done s
  frags : FragsIn a fs ph wr
  below : Below B w wr

theorem Feed.grow {B A : Nat} {mo fi : ByteArray} {a : Option Addr} {fs done : List Frag} {w : World} {s : St} {ph : Phys} {wr wr' : World} (h : Feed B A mo fi a fs done w s ph wr) (hB : B ≤ wr.heap.size) (hH : Holds B A mo fi s ph wr') (g : Grows ph wr ph wr') : Feed B A mo fi a fs done w s ph wr' :=
  ⟨hH, h.names, h.good, h.frags.grow g, h.below.trans (g.below hB fun k l hk => (h.holds.labs k l hk).1)⟩

/-- the start: an empty assembly -/
def ph0 (A : Nat) : Phys := { lab := fun k => if k = A then some 0 else none, cv := .slice none 0 0, mp := none, nm := [], av := fun _ => .slice none 0 0 }

theorem Holds.start (B : Nat) (mo fi : ByteArray) (w : World) (hB : B ≤ w.heap.size) : Holds B w.heap.size mo fi ⟨[], none⟩ (ph0 w.heap.size) (w.alloc (.cells (asmCells mo fi (.slice none 0 0) none none) 79)) where
  asm := heap_alloc_new w _
  labA := if_pos rfl
  row := World.ownsRow_nil _ _ _ _
  labRow := fun k hk => by simp [ph0, Value.ownBlock] at hk
  call := fun p hp => by simp at hp
  labCall := fun p hp => by simp at hp
  args := fun p hp => by simp at hp
  labArgs := fun p hp => by simp at hp
  names := rfl
  nodup := by simp
  labs := fun k l hk => by
    simp only [ph0] at hk
    split at hk
    · rename_i e; subst e; exact ⟨hB, by simp⟩
    · cases hk
  latest := fun b i h => by cases h

theorem Holds.drewN {B A : Nat} {mo fi : ByteArray} {s : St} {ph : Phys} {w : World} (h : Holds B A mo fi s ph w) (n : Nat) : Holds B A mo fi s ph (w.drewN n) := h.frame (by simp) (fun _ _ _ => by simp)
theorem Grows.drewN (ph : Phys) (w : World) (n : Nat) : Grows ph w ph (w.drewN n) := ⟨rfl, rfl, rfl, by simp, fun _ _ _ => by simp, fun _ _ => rfl⟩

theorem Feed.size {B A : Nat} {mo fi : ByteArray} {a : Option Addr} {fs done : List Frag} {w : World} {s : St} {ph : Phys} {wr : World} (h : Feed B A mo fi a fs done w s ph wr) : B ≤ wr.heap.size := by
  have := (h.holds.labs _ _ h.holds.labA); omega

theorem Feed.two {B A : Nat} {mo fi : ByteArray} {a : Option Addr} {fs done : List Frag} {w : World} {s : St} {ph : Phys} {wr w1 : World} (h : Feed B A mo fi a fs done w s ph wr) {o1 o2 : Obj} (hw : w1 = (wr.alloc o1).alloc o2) {F : Nat} {X : Obj} (hx : wr.heap[F]? = some X) :
    Feed B A mo fi a fs done w s ph w1 ∧ w1.heap[F]? = some X := by
  subst hw
  have hF : F < wr.heap.size := (Array.getElem?_eq_some_iff.1 hx).1
  exact ⟨h.grow h.size ((h.holds.alloc _).alloc _) ((Grows.alloc _ _ _).trans (Grows.alloc _ _ _)), by rw [Below.heap_alloc _ _ _ (by simp; omega), Below.heap_alloc _ _ _ hF]; exact hx⟩

theorem args_le {fs : List Frag} {s : St} (h : Good fs s) {q : Call} (hq : q ∈ s.calls) : q.args.size ≤ fsum fs := by
  rw [← h.sum]
  obtain ⟨a, b, e⟩ := List.append_of_mem hq
  rw [e, asum_append, asum_cons]
  omega

theorem box_cells {w : World} {F : Nat} {f : Frag} {t : TypeId} (h : w.heap[F]? = some (.cells f.cells t)) : w.cell? ⟨F, 1, none⟩ = some (.bool f.has) ∧ w.cell? ⟨F, 2, none⟩ = some (.string f.id) ∧ w.cell? ⟨F, 4, none⟩ = some (.string f.args) := by
  simp [World.cell?, h]

theorem fsum_take_succ (fs : List Frag) (k : Nat) (f : Frag) (h : fs[k]? = some f) : fsum (fs.take (k + 1)) = fsum (fs.take k) + f.args.size := by
  unfold fsum
  rw [List.take_add_one, h]; simp

theorem fsum_le_total (fs : List Frag) : fsum fs ≤ total fs := by
  unfold fsum total
  induction fs with
  | nil => simp
  | cons f fs ih => simp [Frag.len] at ih ⊢; omega

theorem fsum_take_le (fs : List Frag) (k : Nat) : fsum (fs.take k) ≤ fsum fs := by
  unfold fsum
  have := congrArg (fun l => (l.map fun f : Frag => f.args.size).sum) (List.take_append_drop k fs)
  simp only [List.map_append, List.sum_append] at this
  omega

theorem Feed.drewN {B A : Nat} {mo fi : ByteArray} {a : Option Addr} {fs done : List Frag} {w : World} {s : St} {ph : Phys} {wr : World} (h : Feed B A mo fi a fs done w s ph wr) (n : Nat) : Feed B A mo fi a fs done w s ph (wr.drewN n) :=
  h.grow h.size (h.holds.drewN n) (Grows.drewN _ _ _)

/-- behind ZZAddToolCallB1 -/
theorem Feed.add {B A : Nat} {mo fi : ByteArray} {a : Option Addr} {fs done : List Frag} {w : World} {s : St} {ph ph' : Phys} {wr wr' : World} (h : Feed B A mo fi a fs done w s ph wr) {f : Frag} {N : Nat} (hN : wr.heap.size ≤ N)
    (h1 : Holds B A mo fi (addF N s f) ph' wr') (h2 : NmOk ph'.nm (addF N s f)) (h3 : Grows ph wr ph' wr') {F : Nat} {X : Obj} (hx : wr.heap[F]? = some X) (hl : ph.lab F = none) :
    Feed B A mo fi a fs (done ++ [f]) w (addF N s f) ph' wr' ∧ wr'.heap[F]? = some X ∧
    ((addF N s f).calls.length = s.calls.length ∨ ((addF N s f).calls.length = s.calls.length + 1 ∧ ((∃ g ∈ done, g.id = f.id) → emp f.id = true) ∧ (s.calls ≠ [] → ¬ f.has = true → ¬ emp f.id = true))) ∧ 1 ≤ (addF N s f).calls.length := by
  have hne : ∀ q ∈ s.calls, q.blk ≠ N := fun q hq e => by have := (h.holds.labs _ _ (h.holds.labCall q hq)).2; omega
  have hg := h.good.step (N := N) f h.holds.nodup hne
  refine ⟨⟨h1, h2, hg, h.frags.grow h3, h.below.trans (h3.below h.size fun k l hk => (h.holds.labs k l hk).1)⟩, ?_, add_length h.good f h.holds.nodup hne, ?_⟩
  · have hF : F < wr.heap.size := (Array.getElem?_eq_some_iff.1 hx).1
    rw [h3.block F hF hl]; exact hx
  · have := hg.pos (by simp)
    exact List.length_pos_iff.2 this

def TrueBelow (w : World) (e : Ending) (w' : World) : Prop := e = .returned (.bool true) ∧ Below w.heap.size w w'

theorem IsFrags.below {w w' : World} {a : Option Addr} {fs : List Frag} (h : IsFrags w a fs) (hb : Below w.heap.size w w') : IsFrags w' a fs := by
  rcases h with h | ⟨b, off, h1, h2, h3⟩
  · exact .inl h
  · exact .inr ⟨b, off, h1, Nat.lt_of_lt_of_le h2 hb.size, h3.same (hb.block b h2)⟩

/-- behind cloneFragsB1 and ZZNewAssemblyB1 -/
theorem Feed.start {w w1 w2 : World} {fs : List Frag} {a : Option Addr} {mo fi : ByteArray} (hb1 : Below w.heap.size w w1) (hb2 : Below w1.heap.size w1 w2)
    (hfr : fs = [] ∨ ∃ b, a = some ⟨b, 0, none⟩ ∧ w1.heap.size ≤ b ∧ b < w2.heap.size ∧ FragRow w2 b 0 fs) :
    Feed w.heap.size w2.heap.size mo fi a fs [] w ⟨[], none⟩ (ph0 w2.heap.size) (w2.alloc (.cells (asmCells mo fi (.slice none 0 0) none none) 79)) := by
  have hB : w.heap.size ≤ w2.heap.size := Nat.le_trans hb1.size hb2.size
  refine ⟨Holds.start _ mo fi w2 hB, fun id => ?_, Good.nil, ?_, (hb1.trans (hb2.mono hb1.size)).alloc hB _⟩
  · show none = _
    unfold byId
    split <;> rfl
  · rcases hfr with h | ⟨b, h1, h2, h3, h4⟩
    · exact .inl h
    · exact .inr ⟨b, h1, by simp; omega, if_neg (by omega), h4.same (Below.heap_alloc _ _ _ h3)⟩

def RelA (B A : Nat) (a : Option Addr) (fs : List Frag) (w : World) (k : Nat) (wr : World) : Prop :=
  ∃ s ph, Feed B A ⟨#[]⟩ ⟨#[]⟩ a fs (fs.take k) w s ph wr

/-- was the id given before? -/
def seenB (fs : List Frag) (k : Nat) (f : Frag) : Bool := !emp f.id && (fs.take k).any fun g => g.id.toList == f.id.toList

def NoSeen (fs : List Frag) (m : Nat) (f : Frag) : Prop := (fs.take m).any (fun g => g.id.toList == f.id.toList) = false

theorem seen_yes {fs : List Frag} {k m : Nat} {f g : Frag} (he : ¬ emp f.id = true) (hg : fs[m]? = some g) (hm : m < k) (h : (g.id.toList == f.id.toList) = true) : seenB fs k f = true := by
  unfold seenB
  have hf : emp f.id = false := emp_false he
  rw [hf]
  simp only [Bool.not_false, Bool.true_and, List.any_eq_true]
  refine ⟨g, ?_, h⟩
  have : (fs.take k)[m]? = some g := by rw [List.getElem?_take, if_pos hm]; exact hg
  exact List.mem_of_getElem? this

theorem seen_no {fs : List Frag} {k : Nat} {f : Frag} (h : NoSeen fs k f) : seenB fs k f = false := by
  unfold seenB
  unfold NoSeen at h
  rw [h, Bool.and_false]

theorem NoSeen.next {fs : List Frag} {m : Nat} {f g : Frag} (h : NoSeen fs m f) (hg : fs[m]? = some g) (hne : (g.id.toList == f.id.toList) = false) : NoSeen fs (m + 1) f := by
  unfold NoSeen at h ⊢
  rw [List.take_add_one, hg, List.any_append, h]
  simpa using hne

theorem any_take_succ (fs : List Frag) (k : Nat) (g : Frag) (p : Frag → Bool) (h : fs[k]? = some g) : (fs.take (k + 1)).any p = ((fs.take k).any p || p g) := by
  rw [List.take_add_one, h]; simp

set_option maxRecDepth 100000 in
set_option maxHeartbeats 4000000 in
theorem lawA_walk (a0 : Option Addr) (cap0 : Nat) (fs : List Frag) (w : World) (hr : IsFrags w a0 fs) (hl : fs.length ≤ 9223372036854775807) :
    Calls Try.prog 5 #[.slice a0 fs.length cap0] w (TrueBelow w) := by
  have hzz := zzBytes31_any a0 cap0 fs w hr hl
  have hfb := fragsBytes_any a0 cap0 fs w hr hl
  by_cases hbig : 1048576 < fragsBytes fs
  · go_enter Try.func5, Try.ntmps5
    go_wp2_with (first
      | (go_at_call 31; refine hzz.mono ?_; rintro e w' ⟨r, rfl, hz, hw⟩; obtain rfl := hw.symm; clear hw)
      | (go_at_call 10; refine hfb.mono ?_; rintro e w1 ⟨rfl, hb1⟩))
    all_goals (go_ret; first | exact ⟨rfl, hb1⟩ | exact ⟨rfl, Below.refl _ _⟩)
  · have hlen : fs.length ≤ 4096 := by
      unfold fragsBytes at hbig
      split at hbig <;> omega
    go_enter Try.func5, Try.ntmps5
    go_wp2_with (first
      | (go_at_call 31; refine hzz.mono ?_; rintro e w' ⟨r, rfl, hz, hw⟩; obtain rfl := hw.symm; clear hw)
      | (go_at_call 10; refine hfb.mono ?_; rintro e w1 ⟨rfl, hb1⟩)
      | (go_at_call 11; refine (clone_any a0 cap0 fs _ (hr.below hb1) (by omega)).mono ?_; rintro e w2 ⟨a, c, rfl, hfr, hb2⟩)
      | (go_at_call 12; refine (newAssembly_any _ _ _).mono ?_; rintro e w3 ⟨rfl, rfl⟩))
    · go_ret
      exact ⟨rfl, Below.refl _ _⟩
    have hz' : fs.length + total fs ≤ 1048576 := hz (by simpa using ‹(!r) = false›)
    have hstart := Feed.start (mo := ⟨#[]⟩) (fi := ⟨#[]⟩) hb1 hb2 hfr
    obtain ⟨A, hA⟩ : ∃ A, A = w2.heap.size := ⟨_, rfl⟩
    have hR0 : RelA w.heap.size A a fs w 0 (w2.alloc (.cells (asmCells ⟨#[]⟩ ⟨#[]⟩ (.slice none 0 0) none none) 79)) := ⟨_, _, hA ▸ hstart⟩
    have HZ := hide1 hz'
    rw [← hA]
    clear hz hz' hstart hfr hb1 hb2 hA hzz hfb hbig hr
    go_loopw [4, 5] (fun t i wr => ∃ k : Nat, k ≤ fs.length ∧ i = .int .i64 k ∧ t = .int .i64 (fsum (fs.take k)) ∧ RelA w.heap.size A a fs w k wr) (fun _ i _ => fs.length - (intOf i).toNat)
    case atStart => exact ⟨0, Nat.zero_le _, rfl, rfl, hR0⟩
    case round =>
      clear hR0
      obtain ⟨k, hk, rfl, rfl, s, ph, hF⟩ := hrel
      by_cases hlt : k < fs.length
      · obtain ⟨b, rfl, hb, hlb, hrow⟩ := hF.frags.at hlt
        obtain ⟨f, hf⟩ : ∃ f, fs[k]? = some f := ⟨_, List.getElem?_eq_getElem hlt⟩
        obtain ⟨c0, c1, c2, c3, c4⟩ := hrow k _ hf
        simp only [Nat.zero_add] at c0 c1 c2 c3 c4
        have HF := hide1 hf
        have hH1 := hF.holds.alloc (.cells f.cells 36)
        clear hf
        go_upto_if 44 with (go_at_call 21; refine (numCalls_any hH1).mono ?_; rintro e w' ⟨rfl, hw⟩; obtain rfl := hw.symm; clear hw)
        go_cut [8, 9] (fun v _ w2 => v = .bool (seenB fs k f) ∧ ∃ n, w2 = (wr.alloc (.cells f.cells 36)).drewN n)
        case first =>
          by_cases e1 : emp f.id = true
          · have e2 : f.id.toList.isEmpty = true := e1
            rw [e2]
            clear e2
            go_wp2_with fail
            go_meet
            case rel => exact ⟨by simp [seenB, e1], 0, rfl⟩
          · have e2 := emp_false e1
            rw [e2]
            go_wp2_with fail
            go_loopw [8, 9] (fun v j w2 => ∃ m : Nat, m ≤ k ∧ j = .int .i64 m ∧ v = .bool false ∧ NoSeen fs m f ∧ ∃ n, w2 = (wr.alloc (.cells f.cells 36)).drewN n) (fun _ j _ => k - (intOf j).toNat)
            case atStart => exact ⟨0, Nat.zero_le _, rfl, rfl, rfl, 0, rfl⟩
            case round =>
              obtain ⟨m, hm, rfl, rfl, hno, n, rfl⟩ := hrel
              by_cases hmk : m < k
              · obtain ⟨g, hg⟩ : ∃ g, fs[m]? = some g := ⟨_, List.getElem?_eq_getElem (by omega)⟩
                obtain ⟨d0, d1, d2, d3, d4⟩ := hrow m _ hg
                simp only [Nat.zero_add] at d0 d1 d2 d3 d4
                have HG := hide1 (And.intro hg hno)
                clear hg hno
                have hm2 : (m : Int) < (fs.length : Int) := by omega
                go_wp2_with fail
                go_quiet (fail)
                go_wp2_with fail
                · go_meet
                  case rel => exact ⟨by rw [seen_yes e1 HG.out.1 hmk ‹_›], n + nq, by simp⟩
                · go_roundw
                  case rel => exact ⟨m + 1, by omega, by go_num, rfl, HG.out.2.next HG.out.1 ‹_›, n + nq, by simp⟩
                  case measure => simp [intOf]; omega
              · go_wp2_with fail
                obtain rfl : m = k := by omega
                go_meet
                case rel => exact ⟨by rw [seen_no hno], _, rfl⟩
        case rest =>
          obtain ⟨rfl, n, rfl⟩ := hcut
          have hF1 : Feed w.heap.size A ⟨#[]⟩ ⟨#[]⟩ (some ⟨b, 0, none⟩) fs (fs.take k) w s ph ((wr.alloc (.cells f.cells 36)).drewN n) :=
            hF.grow hF.size ((hF.holds.alloc _).drewN n) ((Grows.alloc ph wr _).trans (Grows.drewN ph _ n))
          have hbx : ((wr.alloc (.cells f.cells 36)).drewN n).heap[wr.heap.size]? = some (.cells f.cells 36) := heap_alloc_new wr _
          have hlF : ph.lab wr.heap.size = none := by
            cases e : ph.lab wr.heap.size with
            | none => rfl
            | some l => have := (hF.holds.labs _ _ e).2; omega
          have hfs : fsum fs ≤ 1048576 := by have := fsum_le_total fs; have := HZ.out; omega
          have hft := fsum_take_le fs k
          have hfn := fsum_take_succ fs k f HF.out
          have hfn2 := fsum_take_le fs (k + 1)
          have hfz : f.args.size ≤ 1048576 := by omega
          have hsz : ∀ q ∈ s.calls, q.args.size + f.args.size ≤ 1000000000 := fun q hq => by have := args_le hF.good hq; omega
          have hcn : s.calls.length ≤ 4096 := by have := hF.good.count; rw [List.length_take] at this; omega
          have hft' : (fsum (fs.take k) : Int) ≤ 1048576 := by omega
          have hfz' : (f.args.size : Int) ≤ 1048576 := by omega
          have HFN := hide1 hfn
          clear hfn hfn2
          go_upto_region 25 with (first
            | (go_at_call 14; refine (toFragment_any f _).mono ?_; rintro e w1 ⟨rfl, hw1⟩; obtain ⟨hF2, hbx1⟩ := hF1.two hw1 hbx; clear hw1)
            | (go_at_call 13; refine (zzAdd_any hF2.holds hF2.names hF2.good.sorted (by omega) f hsz (by omega)).mono ?_; rintro e w2 ⟨N, ph2, rfl, hN, h1, h2, h3⟩; obtain ⟨hF3, hbx2, hL, hpos⟩ := hF2.add hN h1 h2 h3 hbx1 hlF; obtain ⟨x1, x2, x4⟩ := box_cells hbx2; clear hN h1 h2 h3)
            | (go_at_call 21; refine (numCalls_any hF3.holds).mono ?_; rintro e w' ⟨rfl, hw⟩; obtain rfl := hw.symm; clear hw))
          have hseen : seenB fs k f = true → (addF N s f).calls.length = s.calls.length := fun hs => by
            rcases hL with h1 | ⟨_, h2, _⟩
            · exact h1
            · unfold seenB at hs
              simp only [Bool.and_eq_true, Bool.not_eq_true', List.any_eq_true] at hs
              obtain ⟨he, g, hg, hgi⟩ := hs
              have hid : g.id = f.id := (MapKept.bytes_beq _ _).1 (by rw [beq_toListBytes]; exact hgi)
              have := h2 ⟨g, hg, hid⟩
              rw [he] at this; cases this
          have hbare : 0 < s.calls.length → f.has = false → emp f.id = true → (addF N s f).calls.length = s.calls.length := fun h1 h2 h3 => by
            rcases hL with h | ⟨_, _, h⟩
            · exact h
            · exact absurd h3 (h (List.length_pos_iff.1 h1) (by simp [h2]))
          obtain ⟨s2, hs2⟩ : ∃ s2, s2 = addF N s f := ⟨_, rfl⟩
          rw [← hs2] at hF3 hL hpos hseen hbare
          rw [← hs2]
          have hL' : s2.calls.length = s.calls.length ∨ s2.calls.length = s.calls.length + 1 := by
            rcases hL with h | ⟨h, _⟩
            · exact .inl h
            · exact .inr h
          have HH := hide3 hL' hseen hbare
          have hcn2 : s2.calls.length ≤ 4096 := by rcases hL' with h | h <;> (have := hF3.good.count; rw [List.length_append, List.length_take] at this; simp at this; omega)
          clear hL hL' hseen hbare hs2 hF2 hF1 hbx hbx1 HZ hsz
          go_cut [77] (fun v w' => v = .bool false ∧ w2 = w')
          case first =>
            rcases HH.out.1 with h | h
            · have t1 : ((s2.calls.length : Int) != (s.calls.length : Int)) = false := by simp [h]
              clear h
              go_wp2_with fail
              go_meet
              case rel => exact ⟨rfl, rfl⟩
            · have t1 : ((s2.calls.length : Int) != (s.calls.length : Int)) = true := by simp [h]; omega
              have t2 : ((s2.calls.length : Int) != (s.calls.length : Int) + 1) = false := by simp [h]
              clear h
              go_wp2_with fail
              go_meet
              case rel => exact ⟨rfl, rfl⟩
          case rest =>
          obtain ⟨rfl, hw⟩ := hcut
          subst hw
          go_upto_region 29 with fail
          go_cut [8, 85] (fun v8 v w' => v8 = .bool (seenB fs k f) ∧ v = .bool false ∧ w2 = w')
          case first =>
            cases e1 : seenB fs k f with
            | true =>
              have t1 : ((s2.calls.length : Int) != (s.calls.length : Int)) = false := by simp [HH.out.2.1 e1]
              have HE := hide1 e1
              clear e1
              go_wp2_with fail
              go_meet
              case rel => exact ⟨by rw [HE.out], rfl, rfl⟩
            | false =>
              have HE := hide1 e1
              clear e1
              go_wp2_with fail
              go_meet
              case rel => exact ⟨by rw [HE.out], rfl, rfl⟩
          case rest =>
          obtain ⟨rfl, rfl, hw⟩ := hcut
          subst hw
          go_upto_region 31 with fail
          go_cut [102] (fun v w' => v = .bool false ∧ w2 = w')
          case first =>
            by_cases t0 : (0 : Int) < (s.calls.length : Int)
            · cases t2 : f.has with
              | true =>
                rw [t2] at x1
                go_wp2_with fail
                go_meet
                case rel => exact ⟨rfl, rfl⟩
              | false =>
                rw [t2] at x1
                by_cases t3 : emp f.id = true
                · have t1 : ((s2.calls.length : Int) != (s.calls.length : Int)) = false := by simp [HH.out.2.2 (by omega) t2 t3]
                  have t3' : f.id.toList.isEmpty = true := t3
                  clear t3
                  go_wp2_with fail
                  go_meet
                  case rel => exact ⟨rfl, rfl⟩
                · have t3' := emp_false t3
                  clear t3
                  go_wp2_with fail
                  go_meet
                  case rel => exact ⟨rfl, rfl⟩
            · have t0' : decide ((0 : Int) < (s.calls.length : Int)) = false := decide_eq_false t0
              go_wp2_with fail
              go_meet
              case rel => exact ⟨rfl, rfl⟩
          case rest =>
          obtain ⟨rfl, hw⟩ := hcut
          subst hw
          go_wp2_with fail
          go_loopw [11] (fun j w' => ∃ m : Nat, 1 ≤ m ∧ m ≤ s2.calls.length ∧ j = .int .i64 m ∧ w' = w2) (fun j _ => s2.calls.length - (intOf j).toNat)
          case atStart => exact ⟨1, Nat.le_refl _, hpos, rfl, rfl⟩
          case round =>
            obtain ⟨m, hm1, hm2, rfl, rfl⟩ := hrel
            by_cases hml : m < s2.calls.length
            · obtain ⟨q, rfl⟩ : ∃ q, m = q + 1 := ⟨m - 1, by omega⟩
              obtain ⟨p1, hp1⟩ : ∃ p, s2.calls[q]? = some p := ⟨_, List.getElem?_eq_getElem (by omega)⟩
              obtain ⟨p2, hp2⟩ : ∃ p, s2.calls[q + 1]? = some p := ⟨_, List.getElem?_eq_getElem (by omega)⟩
              have hle := hF3.good.sorted q (q + 1) p1 p2 hp1 hp2 (by omega)
              have k1 := call_any hF3.holds q p1 hp1
              have k2 := call_any hF3.holds (q + 1) p2 hp2
              rw [show (((q + 1 : Nat) : Int)) = (q : Int) + 1 from rfl] at k2
              have k3 := callIndex_any hF3.holds p1 (List.mem_of_getElem? hp1)
              have k4 := callIndex_any hF3.holds p2 (List.mem_of_getElem? hp2)
              clear hp1 hp2
              go_wp2_with fail
              refine k1.mono ?_
              rintro e w' ⟨rfl, hw⟩
              obtain rfl := hw.symm
              clear hw
              go_wp2_with fail
              refine k3.mono ?_
              rintro e w' ⟨rfl, hw⟩
              obtain rfl := hw.symm
              clear hw
              go_wp2_with fail
              refine k2.mono ?_
              rintro e w' ⟨rfl, hw⟩
              obtain rfl := hw.symm
              clear hw
              go_wp2_with fail
              refine k4.mono ?_
              rintro e w' ⟨rfl, hw⟩
              obtain rfl := hw.symm
              clear hw
              go_wp2_with fail
              go_roundw
              case rel => exact ⟨q + 2, by omega, by omega, by go_num, trivial⟩
              case measure => simp [intOf]; omega
            · go_wp2_with fail
              go_roundw
              case rel =>
                exact ⟨k + 1, by omega, by go_num, by rw [HFN.out]; go_num, s2, ph2, by
                  rw [List.take_add_one, HF.out]
                  exact hF3⟩
              case measure => simp [intOf]; omega
      · obtain rfl : k = fs.length := by omega
        have hG := hF.good
        rw [List.take_length] at hG
        rw [List.take_length]
        have hfs : fsum fs ≤ 1048576 := by have := fsum_le_total fs; have := HZ.out; omega
        have hcn : s.calls.length ≤ 4096 := by have := hG.count; omega
        have hcn' : decide (fs.length < s.calls.length) = false := decide_eq_false (by have := hG.count; omega)
        have hsum := hG.sum
        have HS := hide1 hsum
        have hasum : asum s.calls ≤ 1048576 := by omega
        clear hsum
        go_wp2_with (go_at_call 21; refine (numCalls_any hF.holds).mono ?_; rintro e w' ⟨rfl, hw⟩; obtain rfl := hw.symm; clear hw)
        go_loopw [13, 14] (fun t j w' => ∃ m : Nat, m ≤ s.calls.length ∧ j = .int .i64 m ∧ t = .int .i64 (asum (s.calls.take m)) ∧ w' = wr) (fun _ j _ => s.calls.length - (intOf j).toNat)
        case atStart => exact ⟨0, Nat.zero_le _, rfl, rfl, rfl⟩
        case round =>
          obtain ⟨m, hm, rfl, rfl, rfl⟩ := hrel
          by_cases hml : m < s.calls.length
          · obtain ⟨p, hp⟩ : ∃ p, s.calls[m]? = some p := ⟨_, List.getElem?_eq_getElem hml⟩
            have k1 := call_any hF.holds m p hp
            have k2 := callArgs_any hF.holds p (List.mem_of_getElem? hp)
            have hst : asum (s.calls.take (m + 1)) = asum (s.calls.take m) + p.args.size := by rw [List.take_add_one, hp, asum_append]; simp [asum]
            have htl : asum (s.calls.take (m + 1)) + asum (s.calls.drop (m + 1)) = asum s.calls := by rw [← asum_append, List.take_append_drop]
            have hb1 : ((asum (s.calls.take m) : Nat) : Int) ≤ 1048576 := by omega
            have hb2 : (p.args.size : Int) ≤ 1048576 := by omega
            have HST := hide1 hst
            clear hst htl hp
            go_wp2_with (first
              | (go_at_call 27; refine k1.mono ?_; rintro e w' ⟨rfl, hw⟩; obtain rfl := hw.symm; clear hw)
              | (go_at_call 30; refine k2.mono ?_; rintro e w' ⟨rfl, hw⟩; obtain rfl := hw.symm; clear hw))
            go_roundw
            case rel => exact ⟨m + 1, by omega, by go_num, by rw [HST.out]; go_num, trivial⟩
            case measure => simp [intOf]; omega
          · obtain rfl : m = s.calls.length := by omega
            have t1 : ((asum s.calls : Int) != (fsum fs : Int)) = false := by rw [HS.out]; simp
            go_wp2_with fail
            have hF0 := hF
            rw [List.take_length] at hF0
            clear hF t1
            go_loopw [15] (fun i w' => ∃ q : Nat, q ≤ fs.length ∧ i = .int .i64 q ∧ Feed w.heap.size A ⟨#[]⟩ ⟨#[]⟩ a fs fs w s ph w') (fun i _ => fs.length - (intOf i).toNat)
            case atStart => exact ⟨0, Nat.zero_le _, rfl, hF0⟩
            case round =>
              clear hF0
              obtain ⟨q, hq, rfl, hF⟩ := hrel
              by_cases hql : q < fs.length
              · obtain ⟨b, rfl, hb, hlb, hrow⟩ := hF.frags.at hql
                obtain ⟨f, hf⟩ : ∃ f, fs[q]? = some f := ⟨_, List.getElem?_eq_getElem hql⟩
                have HF := hide1 hf
                obtain ⟨c0, c1, c2, c3, c4⟩ := hrow q _ hf
                simp only [Nat.zero_add] at c0 c1 c2 c3 c4
                have hfm : f ∈ fs := List.mem_of_getElem? hf
                clear hf
                by_cases he : emp f.id = true
                · have he' : f.id.toList.isEmpty = true := he
                  clear he
                  go_wp2_with fail
                  go_roundw
                  case rel => exact ⟨q + 1, by omega, by go_num, hF⟩
                  case measure => simp [intOf]; omega
                · have he' := emp_false he
                  have hcnt := hG.ids f hfm he
                  have HC := hide1 hcnt
                  clear hcnt hrow hb hlb
                  go_wp2_with fail
                  go_loopw [16, 17] (fun t j w' => ∃ m : Nat, m ≤ s.calls.length ∧ j = .int .i64 m ∧ t = .int .i64 (cnt (s.calls.take m) f.id) ∧ Feed w.heap.size A ⟨#[]⟩ ⟨#[]⟩ (some ⟨b, 0, none⟩) fs fs w s ph w') (fun _ j _ => s.calls.length - (intOf j).toNat)
                  case atStart => exact ⟨0, Nat.zero_le _, rfl, rfl, hF⟩
                  case round =>
                    clear c0 c1 c2 c3 c4 hF
                    obtain ⟨m, hm, rfl, rfl, hF⟩ := hrel
                    by_cases hml : m < s.calls.length
                    · obtain ⟨b', e, hb, hlb, hrow⟩ := hF.frags.at hql
                      cases e
                      obtain ⟨c0, c1, c2, c3, c4⟩ := hrow q _ HF.out
                      simp only [Nat.zero_add] at c0 c1 c2 c3 c4
                      obtain ⟨p, hp⟩ : ∃ p, s.calls[m]? = some p := ⟨_, List.getElem?_eq_getElem hml⟩
                      have k1 : ∀ n, Calls Try.prog 27 #[.pointer (some ⟨A, 0, none⟩), .int .i64 m] (wr.drewN n) _ := fun n => call_any (hF.holds.drewN n) m p hp
                      have k2 : ∀ n, Calls Try.prog 28 #[p.ptr] (wr.drewN n) _ := fun n => callId_any (hF.holds.drewN n) p (List.mem_of_getElem? hp)
                      have hst : cnt (s.calls.take (m + 1)) f.id = cnt (s.calls.take m) f.id + if p.id = f.id then 1 else 0 := by rw [List.take_add_one, hp, cnt_append]; simp [cnt, List.countP_cons]
                      have hcb : cnt (s.calls.take m) f.id ≤ m := by
                        unfold cnt
                        have := List.countP_le_length (p := fun p : Call => decide (p.id = f.id)) (l := s.calls.take m)
                        rw [List.length_take] at this
                        omega
                      have hb1 : ((cnt (s.calls.take m) f.id : Nat) : Int) ≤ 4096 := by omega
                      have HST := hide1 hst
                      have hq' : (q : Int) < (fs.length : Int) := by omega
                      clear hst hp
                      go_wp2_with fail
                      go_quiet ((first | (go_at_call 27; exact Calls.quiet_of_same (k1 _)) | (go_at_call 28; exact Calls.quiet_of_same (k2 _))))
                      go_wp2_with fail
                      · have hid : p.id = f.id := (MapKept.bytes_beq _ _).1 (by rw [beq_toListBytes]; assumption)
                        go_roundw
                        case rel => exact ⟨m + 1, by omega, by go_num, by rw [HST.out, if_pos hid]; go_num, hF.drewN nq⟩
                        case measure => simp [intOf]; omega
                      · have hid : ¬ p.id = f.id := fun e => by
                          have h1 := (MapKept.bytes_beq _ _).2 e
                          rw [beq_toListBytes] at h1
                          simp_all
                        go_roundw
                        case rel => exact ⟨m + 1, by omega, by go_num, by rw [HST.out, if_neg hid]; go_num, hF.drewN nq⟩
                        case measure => simp [intOf]; omega
                    · obtain rfl : m = s.calls.length := by omega
                      have t1 : ((cnt s.calls f.id : Int) != 1) = false := by rw [HC.out]; rfl
                      go_wp2_with fail
                      go_roundw
                      case rel => exact ⟨q + 1, by omega, by go_num, hF⟩
                      case measure => simp [intOf]; omega
              · go_wp2_with fail
                go_ret
                exact ⟨rfl, hF.below⟩

end Go.Proofs.Qxb6600954a
