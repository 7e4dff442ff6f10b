/-
  Seat b6600954a: FnResponseSnapshotStable (function 7), walked.
-/
import Derived.Test.Qxb6600954aSnap
import Derived.Test.Qxb6600954aPair
import Derived.Test.Qxb6600954aProbe
import Derived.Test.Qxb6600954aMOrder
namespace Go.Proofs.Qxb6600954a
open Go.RowKit

abbrev sM : ByteArray := ⟨#[109]⟩
abbrev sStop7 : ByteArray := ⟨#[115, 116, 111, 112]⟩

/-- a made slice of n elements of one cell, or of more -/
def Made (t e size n : Nat) : Prop := ∃ ROW : Array Value, ROW.size = n * size ∧ ∀ w, (Instr.makeSlice t (.int .i64 (n : Int)) (.int .i64 (n : Int))).run Try.prog w = .ok (.slice (some ⟨w.heap.size, 0, none⟩) n n) (w.alloc (.cells ROW e))

theorem made39 (n : Nat) (hn : n ≤ 100000) : Made 39 52 3 n := by
  obtain ⟨i0, z, hi0, hz0, hzs, hzb, hzc⟩ := info52
  refine ⟨madeCells z.cells (n * i0.size), by rw [size_madeCells, hzs], fun w => ?_⟩
  have := run_make (P := Try.prog) w 39 52 i0 z Try.underlying39 hi0 hz0 .i64 .i64 n n (by omega) (Int.le_refl _) (by rw [hzb]; omega) (by omega)
  simpa using this

theorem made46 (n : Nat) (hn : n ≤ 100000) : Made 46 3 1 n := by
  obtain ⟨i0, z, hi0, hz0, hzs, hzb⟩ := info3
  refine ⟨madeCells z.cells (n * i0.size), by rw [size_madeCells, hzs], fun w => ?_⟩
  have := run_make (P := Try.prog) w 46 3 i0 z Try.underlying46 hi0 hz0 .i64 .i64 n n (by omega) (Int.le_refl _) (by rw [hzb]; omega) (by omega)
  simpa using this

theorem infoOf {t : TypeId} {b : Nat} (h : (Try.prog.info? t).map (fun i => (i.zero.isSome, i.size, i.bytes)) = some (true, 1, b)) : ∃ i z, Try.prog.info? t = some i ∧ i.zero = some z ∧ i.size = 1 ∧ i.bytes = b := by
  obtain ⟨i, hi, he⟩ := Option.map_eq_some_iff.1 h
  simp only [Prod.mk.injEq] at he
  obtain ⟨z, hz⟩ := Option.isSome_iff_exists.1 he.1
  exact ⟨i, z, hi, hz, he.2.1, he.2.2⟩

theorem made70 (n : Nat) (hn : n ≤ 100000) : Made 70 57 1 n := by
  obtain ⟨i0, z, hi0, hz0, hzs, hzb⟩ := infoOf (t := 57) (b := 8) (by kernel_rfl)
  refine ⟨madeCells z.cells (n * i0.size), by rw [size_madeCells, hzs], fun w => ?_⟩
  have := run_make (P := Try.prog) w 70 57 i0 z Try.underlying70 hi0 hz0 .i64 .i64 n n (by omega) (Int.le_refl _) (by rw [hzb]; omega) (by omega)
  simpa using this

theorem made71 (n : Nat) (hn : n ≤ 100000) : Made 71 9 1 n := by
  obtain ⟨i0, z, hi0, hz0, hzs, hzb⟩ := infoOf (t := 9) (b := 16) (by kernel_rfl)
  refine ⟨madeCells z.cells (n * i0.size), by rw [size_madeCells, hzs], fun w => ?_⟩
  have := run_make (P := Try.prog) w 71 9 i0 z Try.underlying71 hi0 hz0 .i64 .i64 n n (by omega) (Int.le_refl _) (by rw [hzb]; omega) (by omega)
  simpa using this

/-- a Response in its variable, and the row of its calls -/
structure Shot (R g gc B' : Nat) (cs : List Call) (W : World) : Prop where
  box : W.heap[R]? = some (.cells (respCells sM sStop7 g cs.length gc) 44)
  row : W.ownsRow B' 52 3 (.slice (some ⟨g, 0, none⟩) cs.length gc) cs.length (tcRows cs)

theorem Shot.keep {R g gc B' : Nat} {cs : List Call} {W W' : World} (h : Shot R g gc B' cs W) (h1 : W'.heap[R]? = W.heap[R]?) (h2 : W'.heap[g]? = W.heap[g]?) : Shot R g gc B' cs W' :=
  ⟨by rw [h1]; exact h.box, ownsRow_same h.row fun k hk => by obtain rfl : g = k := by simpa [Value.ownBlock] using hk
                                                              exact h2⟩
theorem Shot.ltR {R g gc B' : Nat} {cs : List Call} {W : World} (h : Shot R g gc B' cs W) : R < W.heap.size := (Array.getElem?_eq_some_iff.1 h.box).1
theorem Shot.ltg {R g gc B' : Nat} {cs : List Call} {W : World} (h : Shot R g gc B' cs W) : g < W.heap.size := (h.row.lt g rfl).2
theorem Shot.below {R g gc B' : Nat} {cs : List Call} {W W' : World} (h : Shot R g gc B' cs W) (hb : Below W.heap.size W W') : Shot R g gc B' cs W' := h.keep (hb.block R h.ltR) (hb.block g h.ltg)
theorem Shot.crow {R g gc B' : Nat} {cs : List Call} {W : World} (h : Shot R g gc B' cs W) : CRow W g cs := row_of h.row
theorem Shot.cells {R g gc B' : Nat} {cs : List Call} {W : World} (h : Shot R g gc B' cs W) : ∀ i v, (respCells sM sStop7 g cs.length gc)[i]? = some v → W.cell? ⟨R, i, none⟩ = some v := fun i v hv => by
  simp only [World.cell?, h.box]
  simpa using hv
/-- behind ZZResponseB1 and the store into the variable -/
theorem Shot.start {g gc : Nat} {cs : List Call} {w w2 : World} (ho : w2.ownsRow w.heap.size 52 3 (.slice (some ⟨g, 0, none⟩) cs.length gc) cs.length (tcRows cs)) : Shot w2.heap.size g gc w.heap.size cs (w2.alloc (.cells (respCells sM sStop7 g cs.length gc) 44)) :=
  ⟨heap_alloc_new _ _, ownsRow_same ho fun k hk => Below.heap_alloc _ _ _ (ho.lt k hk).2⟩

/-- the copy of a Response's calls, k of them made -/
def Sav (w : World) (cs : List Call) (k : Nat) (W : World) : Prop := Fill W w.heap.size 52 (tcRows cs) (k * 3) ∧ Below w.heap.size w W

theorem tcRows_length (cs : List Call) : (tcRows cs).length = cs.length * 3 := by
  induction cs with
  | nil => rfl
  | cons c cs ih => simp only [tcRows, List.flatMap_cons, List.length_append] at ih ⊢; rw [ih]; simp [tcCells]; omega

theorem Sav.step {w : World} {cs : List Call} {k : Nat} {W : World} (h : Sav w cs k W) {p : Call} (hp : cs[k]? = some p) :
    Sav w cs (k + 1) (((W.setCell ⟨w.heap.size, k * 3, none⟩ (.string p.id)).setCell ⟨w.heap.size, k * 3 + 1, none⟩ (.string p.name)).setCell ⟨w.heap.size, k * 3 + 2, none⟩ (.string (argOut p.args))) := by
  have h1 := h.1.step (tcRows_get cs k 0 p hp (by omega))
  have h2 := h1.step (tcRows_get cs k 1 p hp (by omega))
  have h3 := h2.step (tcRows_get cs k 2 p hp (by omega))
  refine ⟨?_, ((h.2.setCell (Nat.le_refl _) _).setCell (Nat.le_refl _) _).setCell (Nat.le_refl _) _⟩
  rw [show (k + 1) * 3 = k * 3 + 1 + 1 + 1 by omega]
  exact h3

/-- what is known of the calls at the cut, k of them noted, in five rows -/
def Five (cs : List Call) (b1 b2 b3 b4 b5 k : Nat) (W : World) : Prop :=
  Fill W b1 57 (cs.map Call.ptr) k ∧ Fill W b2 3 (cs.map fun p => .int .i64 p.index) k ∧ Fill W b3 9 (cs.map fun p => .string p.id) k ∧ Fill W b4 9 (cs.map fun p => .string p.name) k ∧ Fill W b5 9 (cs.map fun p => .string p.args) k

theorem Five.step {cs : List Call} {b1 b2 b3 b4 b5 k : Nat} {W : World} (h : Five cs b1 b2 b3 b4 b5 k W) (ho : b1 < b2 ∧ b2 < b3 ∧ b3 < b4 ∧ b4 < b5) {p : Call} (hp : cs[k]? = some p) :
    Five cs b1 b2 b3 b4 b5 (k + 1) (((((W.setCell ⟨b1, k, none⟩ p.ptr).setCell ⟨b2, k, none⟩ (.int .i64 p.index)).setCell ⟨b3, k, none⟩ (.string p.id)).setCell ⟨b4, k, none⟩ (.string p.name)).setCell ⟨b5, k, none⟩ (.string p.args)) := by
  obtain ⟨h1, h2, h3, h4, h5⟩ := h
  have g : ∀ (f : Call → Value), (cs.map f)[k]? = some (f p) := fun f => by rw [List.getElem?_map, hp]; rfl
  refine ⟨?_, ?_, ?_, ?_, ?_⟩
  · exact ((((h1.step (g _)).other (by omega)).other (by omega)).other (by omega)).other (by omega)
  · exact (((((h2.other (by omega)).step (g _)).other (by omega)).other (by omega)).other (by omega))
  · exact ((((h3.other (by omega)).other (by omega)).step (g _)).other (by omega)).other (by omega)
  · exact ((((h4.other (by omega)).other (by omega)).other (by omega)).step (g _)).other (by omega)
  · exact ((((h5.other (by omega)).other (by omega)).other (by omega)).other (by omega)).step (g _)

theorem Five.same {cs : List Call} {b1 b2 b3 b4 b5 k : Nat} {W W' : World} (h : Five cs b1 b2 b3 b4 b5 k W) (e1 : W'.heap[b1]? = W.heap[b1]?) (e2 : W'.heap[b2]? = W.heap[b2]?) (e3 : W'.heap[b3]? = W.heap[b3]?) (e4 : W'.heap[b4]? = W.heap[b4]?) (e5 : W'.heap[b5]? = W.heap[b5]?) : Five cs b1 b2 b3 b4 b5 k W' :=
  ⟨h.1.same e1, h.2.1.same e2, h.2.2.1.same e3, h.2.2.2.1.same e4, h.2.2.2.2.same e5⟩

theorem Five.below {cs : List Call} {b1 b2 b3 b4 b5 k : Nat} {W W' : World} (h : Five cs b1 b2 b3 b4 b5 k W) (hb : Below W.heap.size W W') : Five cs b1 b2 b3 b4 b5 k W' :=
  h.same (hb.block _ h.1.lt) (hb.block _ h.2.1.lt) (hb.block _ h.2.2.1.lt) (hb.block _ h.2.2.2.1.lt) (hb.block _ h.2.2.2.2.lt)

theorem Five.grows {cs : List Call} {b1 b2 b3 b4 b5 k : Nat} {W W' : World} {ph ph' : Phys} (h : Five cs b1 b2 b3 b4 b5 k W) (hg : Grows ph W ph' W') (hl : ph.lab b1 = none ∧ ph.lab b2 = none ∧ ph.lab b3 = none ∧ ph.lab b4 = none ∧ ph.lab b5 = none) : Five cs b1 b2 b3 b4 b5 k W' :=
  h.same (hg.block _ h.1.lt hl.1) (hg.block _ h.2.1.lt hl.2.1) (hg.block _ h.2.2.1.lt hl.2.2.1) (hg.block _ h.2.2.2.1.lt hl.2.2.2.1) (hg.block _ h.2.2.2.2.lt hl.2.2.2.2)

theorem Five.start {cs : List Call} {w : World} {P I D : Array Value} (h1 : P.size = cs.length) (h2 : I.size = cs.length) (h3 : D.size = cs.length) :
    Five cs w.heap.size (w.heap.size + 1) (w.heap.size + 2) (w.heap.size + 3) (w.heap.size + 4) 0 (((((w.alloc (.cells P 57)).alloc (.cells I 3)).alloc (.cells D 9)).alloc (.cells D 9)).alloc (.cells D 9)) := by
  have s1 : (w.alloc (.cells P 57)).heap.size = w.heap.size + 1 := by simp
  have s2 : ((w.alloc (.cells P 57)).alloc (.cells I 3)).heap.size = w.heap.size + 2 := by simp
  have s3 : (((w.alloc (.cells P 57)).alloc (.cells I 3)).alloc (.cells D 9)).heap.size = w.heap.size + 3 := by simp
  have s4 : ((((w.alloc (.cells P 57)).alloc (.cells I 3)).alloc (.cells D 9)).alloc (.cells D 9)).heap.size = w.heap.size + 4 := by simp
  refine ⟨Fill.start (arr := P) ?_ (by simpa using h1), Fill.start (arr := I) ?_ (by simpa using h2), Fill.start (arr := D) ?_ (by simpa using h3), Fill.start (arr := D) ?_ (by simpa using h3), Fill.start (arr := D) ?_ (by simpa using h3)⟩
  · rw [Below.heap_alloc _ _ _ (by omega), Below.heap_alloc _ _ _ (by omega), Below.heap_alloc _ _ _ (by omega), Below.heap_alloc _ _ _ (by omega)]
    exact heap_alloc_new _ _
  · rw [Below.heap_alloc _ _ _ (by omega), Below.heap_alloc _ _ _ (by omega), Below.heap_alloc _ _ _ (by omega), ← s1]
    exact heap_alloc_new _ _
  · rw [Below.heap_alloc _ _ _ (by omega), Below.heap_alloc _ _ _ (by omega), ← s2]
    exact heap_alloc_new _ _
  · rw [Below.heap_alloc _ _ _ (by omega), ← s3]
    exact heap_alloc_new _ _
  · rw [← s4]
    exact heap_alloc_new _ _

theorem below_drewN {B : Nat} {w w' : World} (h : Below B w w') (m : Nat) : Below B w (w'.drewN m) := ⟨h.os, h.tape, h.output, h.size, h.block⟩

theorem quiet_at {P : Program} {f : FuncId} {args : Array Value} {w : World} {a n : Nat} {v : Value} (h : Calls P f args (w.drewN (a + n)) fun e w' => e = .returned v ∧ w' = w.drewN (a + n)) : Calls P f args (w.drewN (a + n)) fun e w'' => e = .returned v ∧ ∃ m, w'' = w.drewN (a + m) :=
  h.mono fun _ _ ⟨he, hm⟩ => ⟨he, n, hm⟩
theorem quiet_at2 {P : Program} {f : FuncId} {args : Array Value} {w : World} {a n : Nat} {v : Value} (h : Calls P f args (w.drewN (a + n)) fun e w' => e = .returned v ∧ ∃ m, w' = (w.drewN (a + n)).drewN m) : Calls P f args (w.drewN (a + n)) fun e w'' => e = .returned v ∧ ∃ m, w'' = w.drewN (a + m) :=
  h.mono fun _ _ ⟨he, m, hm⟩ => ⟨he, n + m, by rw [hm, World.drewN_drewN, Nat.add_assoc]⟩

def RelE (B A : Nat) (a : Option Addr) (fs : List Frag) (w : World) (cs : List Call) (ph : Phys) (w9 : World) (k : Nat) (wr : World) : Prop :=
  ∃ s2 ph2, Feed B A sM sStop7 a fs (fs.take k) w s2 ph2 wr ∧ Later cs s2.calls ∧ Grows ph w9 ph2 wr

theorem Holds.setOut {B A : Nat} {mo fi : ByteArray} {s : St} {ph : Phys} {w : World} (h : Holds B A mo fi s ph w) {b : Nat} (hb : ph.lab b = none) (i : Nat) (v : Value) : Holds B A mo fi s ph (w.setCell ⟨b, i, none⟩ v) :=
  h.frame (by simp) fun k l hk => heap_setCell_other w ⟨b, i, none⟩ k v (fun e => by have e' : k = b := e; rw [e', hb] at hk; cases hk)

set_option maxRecDepth 100000 in
set_option maxHeartbeats 10000000 in
theorem lawE_walk (a0 : Option Addr) (cap0 : Nat) (fs : List Frag) (cut : Int) (w : World) (hr : IsFrags w a0 fs) (hl : fs.length ≤ 9223372036854775807) :
    Calls Try.prog 7 #[.slice a0 fs.length cap0, .int .i64 cut] w (TrueBelow w) := by
  have hzz := zzBytes34_any a0 cap0 fs cut w hr hl
  have hfb := fragsBytes_any a0 cap0 fs w hr hl
  have hlen : ¬ 1048576 < fragsBytes fs → fs.length ≤ 4096 := fun h2 => by
    unfold fragsBytes at h2
    split at h2 <;> omega
  obtain ⟨C0, hC0⟩ : ∃ C0, C0 = fragsBytes fs := ⟨_, rfl⟩
  rw [← hC0] at hfb hlen
  clear hC0
  go_enter Try.func7, Try.ntmps7
  go_wp2_with fail
  refine hzz.mono ?_
  rintro e w' ⟨r, rfl, hz, hw⟩
  obtain rfl := hw.symm
  clear hw
  go_wp2_with fail
  · go_ret
    exact ⟨rfl, Below.refl _ _⟩
  refine hfb.mono ?_
  rintro e w1 ⟨rfl, hb1⟩
  by_cases hbig : 1048576 < C0
  · go_wp2_with fail
    go_ret
    exact ⟨rfl, hb1⟩
  replace hlen := hlen (by omega)
  by_cases hcut0 : cut < 0
  · go_wp2_with fail
    go_ret
    exact ⟨rfl, hb1⟩
  obtain ⟨c, rfl⟩ : ∃ c : Nat, cut = c := ⟨cut.toNat, by omega⟩
  by_cases hcut1 : fs.length < c
  · go_wp2_with fail
    go_ret
    exact ⟨rfl, hb1⟩
  have hcf : c ≤ fs.length := by omega
  go_wp2_with fail
  refine (clone_any a0 cap0 fs _ (hr.below hb1) (by omega)).mono ?_
  rintro e w2 ⟨a, cp, rfl, hfr, hb2⟩
  go_wp2_with fail
  refine (newAssembly_any _ _ _).mono ?_
  rintro e w3 ⟨rfl, rfl⟩
  go_wp2_with fail
  have hz' : fs.length + total fs ≤ 1048576 := by have := hz (by simpa using ‹(!r) = false›); omega
  have hstart := Feed.start (mo := sM) (fi := sStop7) hb1 hb2 hfr
  obtain ⟨A, hA⟩ : ∃ A, A = w2.heap.size := ⟨_, rfl⟩
  rw [← hA] at hstart ⊢
  have hR0 : RelB w.heap.size A sM sStop7 a fs w 0 (w2.alloc (.cells (asmCells sM sStop7 (.slice none 0 0) none none) 79)) := ⟨_, _, hstart⟩
  have HZ := hide1 hz'
  clear hz hz' hstart hfr hb1 hb2 hA hzz hfb hbig hr hcut0 hcut1
  go_loopw [6] (fun i wr => ∃ k : Nat, k ≤ c ∧ i = .int .i64 k ∧ RelB w.heap.size A sM sStop7 a fs w k wr) (fun i _ => c - (intOf i).toNat)
  case atStart => exact ⟨0, Nat.zero_le _, rfl, hR0⟩
  case round =>
    clear hR0
    obtain ⟨k, hk, rfl, s, ph, hF⟩ := hrel
    by_cases hlt : k < c
    · have hlt2 : k < fs.length := by omega
      obtain ⟨b, rfl, hb, hlb, hrow⟩ := hF.frags.at hlt2
      obtain ⟨f, hf⟩ : ∃ f, fs[k]? = some f := ⟨_, List.getElem?_eq_getElem hlt2⟩
      obtain ⟨c0, c1, c2, c3, c4⟩ := hrow k _ hf
      simp only [Nat.zero_add] at c0 c1 c2 c3 c4
      obtain ⟨hcn, hfz, hsz⟩ := feed_size hF HZ.out hlen hf
      have HF := hide1 hf
      obtain ⟨X, hX⟩ : ∃ X, wr.heap[b]? = some X := ⟨_, Array.getElem?_eq_getElem hb⟩
      have HX := hide1 hX
      have HFE := hide1 hF
      clear hf hF hX hrow
      go_wp2_with fail
      refine (toFragment_any f _).mono ?_
      rintro e w1 ⟨rfl, hw1⟩
      obtain ⟨hF2, hbx1⟩ := HFE.out.two hw1 HX.out
      clear hw1
      go_wp2_with fail
      refine (zzAdd_any hF2.holds hF2.names hF2.good.sorted (by omega) f hsz (by omega)).mono ?_
      rintro e w2 ⟨N, ph2, rfl, hN, h1, h2, h3⟩
      obtain ⟨hF3, hbx2, hL, hpos⟩ := hF2.add hN h1 h2 h3 hbx1 hlb
      have HF3 := hide1 hF3
      clear hN h1 h2 h3 hL hpos hF3 hF2 hbx1 hbx2
      go_wp2_with fail
      go_roundw
      case rel => exact ⟨k + 1, by omega, by go_num, _, ph2, by rw [List.take_add_one, HF.out]; exact HF3.out⟩
      case measure => simp [intOf]; omega
    · obtain rfl : c = k := by omega
      have hG := hF.good
      have hcn : s.calls.length ≤ 4096 := by have := hG.count; rw [List.length_take] at this; omega
      have HF := hide1 hF
      clear hF hG hlt
      go_wp2_with fail
      refine (zzResponse_any HF.out.holds (by omega)).mono ?_
      rintro e w2 ⟨g1, gc1, rfl, ho, hb2⟩
      obtain ⟨ROW, hRs, hmk⟩ := made39 s.calls.length (by omega)
      have hF2 := HF.out.quiet hb2
      obtain ⟨wX, hwX⟩ : ∃ wX, wX = w2.alloc (.cells (respCells sM sStop7 g1 s.calls.length gc1) 44) := ⟨_, rfl⟩
      have hFX : Feed w.heap.size A sM sStop7 a fs (fs.take c) w s ph wX := by rw [hwX]; exact hF2.quiet ((Below.refl _ _).alloc (Nat.le_refl _) _)
      have hShX : Shot w2.heap.size g1 gc1 wr.heap.size s.calls wX := by rw [hwX]; exact Shot.start ho
      have hXs : wX.heap.size = w2.heap.size + 1 := by rw [hwX]; simp
      have hSav0 : Sav wX s.calls 0 (wX.alloc (.cells ROW 52)) := ⟨Fill.start (heap_alloc_new _ _) (by rw [hRs, tcRows_length]), (Below.refl _ _).alloc (Nat.le_refl _) _⟩
      have hun : ph.lab w2.heap.size = none ∧ ph.lab g1 = none ∧ ph.lab wX.heap.size = none := by
        have lo : ∀ b, wr.heap.size ≤ b → ph.lab b = none := fun b hb => by
          cases e : ph.lab b with
          | none => rfl
          | some l => have := (HF.out.holds.labs b l e).2; omega
        exact ⟨lo _ hb2.size, lo _ (ho.lt g1 rfl).1, lo _ (by rw [hXs]; have := hb2.size; omega)⟩
      have HUN := hide1 hun
      have HFX := hide1 (And.intro hFX (And.intro hShX hSav0))
      clear hun
      clear hF2 hFX hShX hSav0 ho hb2 HF
      go_wp2_with fail
      rw [← hwX, ← hXs]
      obtain ⟨R1, hR1⟩ : ∃ R1, R1 = w2.heap.size := ⟨_, rfl⟩
      rw [← hR1] at HFX hXs HUN ⊢
      have HXS := hide1 hXs
      clear hwX hR1 hmk hXs
      go_loopw [9] (fun i wr => ∃ k : Nat, k ≤ s.calls.length ∧ i = .int .i64 k ∧ Sav wX s.calls k wr) (fun i _ => s.calls.length - (intOf i).toNat)
      case atStart => exact ⟨0, Nat.zero_le _, rfl, HFX.out.2.2⟩
      case round =>
        obtain ⟨k, hk, rfl, hSv⟩ := hrel
        have hSh := HFX.out.2.1.below hSv.2
        have b4 := hSh.cells 4 _ rfl
        have hR1l := hSh.ltR
        have hg1l := hSh.ltg
        by_cases hlt : k < s.calls.length
        · obtain ⟨p, hp⟩ : ∃ p, s.calls[k]? = some p := ⟨_, List.getElem?_eq_getElem hlt⟩
          obtain ⟨t0, t1, t2⟩ := hSh.crow k p hp
          have hrl := tcRows_length s.calls
          obtain ⟨v0, d0⟩ := hSv.1.some (i := k * 3) (by omega)
          obtain ⟨v1, d1⟩ := hSv.1.some (i := k * 3 + 1) (by omega)
          obtain ⟨v2, d2⟩ := hSv.1.some (i := k * 3 + 2) (by omega)
          have z0 := hSv.1.free (k * 3)
          have z1 := hSv.1.free (k * 3 + 1)
          have z2 := hSv.1.free (k * 3 + 2)
          have hVl := hSv.1.lt
          have HSV := hide1 (And.intro hSv hp)
          clear hSv hp hSh
          go_wp2_with fail
          go_roundw
          case rel => exact ⟨k + 1, by omega, by go_num, HSV.out.1.step HSV.out.2⟩
          case measure => simp [intOf]; omega
        · obtain rfl : k = s.calls.length := by omega
          have HSV := hide1 (And.intro hSv hSh)
          clear hSh
          have hF5 := HFX.out.1.quiet hSv.2
          have HF5 := hide1 hF5
          clear hSv hF5
          go_wp2_with fail
          refine (zzResponse_any HF5.out.holds (by omega)).mono ?_
          rintro e w5 ⟨g2, gc2, rfl, ho2, hb5⟩
          obtain ⟨w5x, hw5x⟩ : ∃ w5x, w5x = w5.alloc (.cells (respCells sM sStop7 g2 s.calls.length gc2) 44) := ⟨_, rfl⟩
          have hbx : Below w5.heap.size w5 w5x := by rw [hw5x]; exact (Below.refl _ _).alloc (Nat.le_refl _) _
          have hF6 := (HF5.out.quiet hb5).quiet hbx
          have hSh1 := HSV.out.2.below hb5
          have hSh1x := hSh1.below hbx
          have hSh2 : Shot w5.heap.size g2 gc2 wr.heap.size s.calls w5x := by rw [hw5x]; exact Shot.start ho2
          have hFl : Fill w5x wX.heap.size 52 (tcRows s.calls) (s.calls.length * 3) := (HSV.out.1.1.same (hb5.block _ HSV.out.1.1.lt)).same (hbx.block _ (Nat.lt_of_lt_of_le HSV.out.1.1.lt hb5.size))
          have e0 := hSh1.cells 0 _ rfl
          have e1 := hSh1.cells 1 _ rfl
          have e2 := hSh1.cells 2 _ rfl
          have e3 := hSh1.cells 3 _ rfl
          have e4 := hSh1.cells 4 _ rfl
          have e5 := hSh1.cells 5 _ rfl
          have e6 := hSh1.cells 6 _ rfl
          have e7 := hSh1.cells 7 _ rfl
          have e8 := hSh1.cells 8 _ rfl
          have e9 := hSh1.cells 9 _ rfl
          have e10 := hSh1.cells 10 _ rfl
          have e11 := hSh1.cells 11 _ rfl
          have e12 := hSh1.cells 12 _ rfl
          have hR1l5 := hSh1.ltR
          have HX5 := hide1 (And.intro hF6 (And.intro hSh1x (And.intro hSh2 hFl)))
          clear hF6 hSh1 hSh1x hSh2 hFl hbx hb5 ho2 HF5 HSV
          go_wp2_with fail
          rw [← hw5x]
          refine (sameResponse_any sM sStop7 g1 g2 gc1 gc2 s.calls _ HX5.out.2.1.ltg HX5.out.2.2.1.ltg HX5.out.2.1.crow HX5.out.2.2.1.crow (by omega)).mono ?_
          rintro e w6 ⟨rfl, hb6⟩
          have hF7 := HX5.out.1.quiet hb6
          have hSh1 := HX5.out.2.1.below hb6
          have hFl : Fill w6 wX.heap.size 52 (tcRows s.calls) (s.calls.length * 3) := HX5.out.2.2.2.same (hb6.block _ HX5.out.2.2.2.lt)
          clear e0 e1 e2 e3 e4 e5 e6 e7 e8 e9 e10 e11 e12 hR1l5 hw5x hb6 HX5 b4 hR1l hg1l
          have b4 := hSh1.cells 4 _ rfl
          have hR1l := hSh1.ltR
          have HX6 := hide1 (And.intro hF7 (And.intro hSh1 hFl))
          clear hF7 hSh1 hFl
          go_wp2_with fail
          refine (numCalls_any HX6.out.1.holds).mono ?_
          rintro e w' ⟨rfl, hw⟩
          obtain rfl := hw.symm
          clear hw
          obtain ⟨ROWP, hRP, hmk70⟩ := made70 s.calls.length (by omega)
          obtain ⟨ROWI, hRI, hmk46⟩ := made46 s.calls.length (by omega)
          obtain ⟨ROWS, hRS, hmk71⟩ := made71 s.calls.length (by omega)
          obtain ⟨X, hX⟩ : ∃ X, X = w6.heap.size := ⟨_, rfl⟩
          have hlab : ∀ b, X ≤ b → ph.lab b = none := fun b hb => by
            cases e : ph.lab b with
            | none => rfl
            | some l => have := (HX6.out.1.holds.labs b l e).2; omega
          have hFive0 := Five.start (cs := s.calls) (w := w6) (by simpa using hRP) (by simpa using hRI) (by simpa using hRS)
          have hBel0 : Below X w6 (((((w6.alloc (.cells ROWP 57)).alloc (.cells ROWI 3)).alloc (.cells ROWS 9)).alloc (.cells ROWS 9)).alloc (.cells ROWS 9)) := by
            rw [hX]
            exact (((((Below.refl _ _).alloc (Nat.le_refl _) _).alloc (by simp) _).alloc (by simp; omega) _).alloc (by simp; omega) _).alloc (by simp; omega) _
          have HFV := hide1 (And.intro hlab (And.intro hFive0 hBel0))
          clear hlab hFive0 hBel0
          go_wp2_with fail
          obtain ⟨X1, hX1⟩ : ∃ X1, X1 = w6.heap.size + 1 := ⟨_, rfl⟩
          rw [← hX1]
          obtain ⟨X2, hX2⟩ : ∃ X2, X2 = X1 + 1 := ⟨_, rfl⟩
          rw [← hX2]
          obtain ⟨X3, hX3⟩ : ∃ X3, X3 = X2 + 1 := ⟨_, rfl⟩
          rw [← hX3]
          obtain ⟨X4, hX4⟩ : ∃ X4, X4 = X3 + 1 := ⟨_, rfl⟩
          rw [← hX4]
          rw [← hX]
          rw [show w6.heap.size + 4 = X4 by omega, show w6.heap.size + 3 = X3 by omega, show w6.heap.size + 2 = X2 by omega, show w6.heap.size + 1 = X1 by omega, ← hX] at HFV
          have hord : X < X1 ∧ X1 < X2 ∧ X2 < X3 ∧ X3 < X4 := by omega
          have HORD := hide1 hord
          have HUX := hide1 (show ph.lab X = none ∧ ph.lab X1 = none ∧ ph.lab X2 = none ∧ ph.lab X3 = none ∧ ph.lab X4 = none from ⟨HFV.out.1 _ (by omega), HFV.out.1 _ (by omega), HFV.out.1 _ (by omega), HFV.out.1 _ (by omega), HFV.out.1 _ (by omega)⟩)
          have HXE := hide1 hX
          have m1 : X1 ≠ X := by omega
          have m2 : X2 ≠ X := by omega
          have m3 : X2 ≠ X1 := by omega
          have m4 : X3 ≠ X := by omega
          have m5 : X3 ≠ X1 := by omega
          have m6 : X3 ≠ X2 := by omega
          have m7 : X4 ≠ X := by omega
          have m8 : X4 ≠ X1 := by omega
          have m9 : X4 ≠ X2 := by omega
          have m10 : X4 ≠ X3 := by omega
          clear hX hX1 hX2 hX3 hX4 hord hmk70 hmk46 hmk71
          go_loopw [17, 18] (fun i _ wr => ∃ k : Nat, k ≤ s.calls.length ∧ i = .int .i64 k ∧ Five s.calls X X1 X2 X3 X4 k wr ∧ Below X w6 wr) (fun i _ _ => s.calls.length - (intOf i).toNat)
          case atStart => exact ⟨0, Nat.zero_le _, rfl, HFV.out.2⟩
          case round =>
            obtain ⟨k, hk, rfl, h5, hbl⟩ := hrel
            have hFk := HX6.out.1.quiet (by rw [← HXE.out]; exact hbl)
            by_cases hlt : k < s.calls.length
            · obtain ⟨p, hp⟩ : ∃ p, s.calls[k]? = some p := ⟨_, List.getElem?_eq_getElem hlt⟩
              have hpm := List.mem_of_getElem? hp
              have hl1 := h5.1.lt
              have hl2 := h5.2.1.lt
              have hl3 := h5.2.2.1.lt
              have hl4 := h5.2.2.2.1.lt
              have hl5 := h5.2.2.2.2.lt
              have z1 := h5.1.free k
              have z2 := h5.2.1.free k
              have z3 := h5.2.2.1.free k
              have z4 := h5.2.2.2.1.free k
              have z5 := h5.2.2.2.2.free k
              obtain ⟨v1, y1⟩ := h5.1.some (i := k) (by simpa using hlt)
              obtain ⟨v2, y2⟩ := h5.2.1.some (i := k) (by simpa using hlt)
              obtain ⟨v3, y3⟩ := h5.2.2.1.some (i := k) (by simpa using hlt)
              obtain ⟨v4, y4⟩ := h5.2.2.2.1.some (i := k) (by simpa using hlt)
              obtain ⟨v5, y5⟩ := h5.2.2.2.2.some (i := k) (by simpa using hlt)
              have hH0 := hFk.holds
              have hH1 := hH0.setOut HUX.out.1 k p.ptr
              have hH2 := hH1.setOut HUX.out.2.1 k (.int .i64 p.index)
              have hH3 := hH2.setOut HUX.out.2.2.1 k (.string p.id)
              have hH4 := hH3.setOut HUX.out.2.2.2.1 k (.string p.name)
              have k27 := call_any hH0 k p hp
              have k26 := callIndex_any hH1 p hpm
              have k28 := callId_any hH2 p hpm
              have k29 := callName_any hH3 p hpm
              have k30 := callArgs_any hH4 p hpm
              have HK := hide1 (And.intro h5 (And.intro hbl hp))
              clear h5 hbl hp hpm hFk hH0 hH1 hH2 hH3 hH4
              go_wp2_with fail
              refine k27.mono ?_
              rintro e w' ⟨rfl, hw⟩
              obtain rfl := hw.symm
              clear hw
              go_wp2_with fail
              refine k26.mono ?_
              rintro e w' ⟨rfl, hw⟩
              obtain rfl := hw.symm
              clear hw
              go_wp2_with fail
              refine k28.mono ?_
              rintro e w' ⟨rfl, hw⟩
              obtain rfl := hw.symm
              clear hw
              go_wp2_with fail
              refine k29.mono ?_
              rintro e w' ⟨rfl, hw⟩
              obtain rfl := hw.symm
              clear hw
              go_wp2_with fail
              refine k30.mono ?_
              rintro e w' ⟨rfl, hw⟩
              obtain rfl := hw.symm
              clear hw
              go_wp2_with fail
              go_roundw
              case rel =>
                have ho := HORD.out
                exact ⟨k + 1, by omega, by go_num, HK.out.1.step HORD.out HK.out.2.2, ((((HK.out.2.1.setCell (Nat.le_refl _) _).setCell (show X ≤ X1 by omega) _).setCell (show X ≤ X2 by omega) _).setCell (show X ≤ X3 by omega) _).setCell (show X ≤ X4 by omega) _⟩
              case measure => simp [intOf]; omega
            · obtain rfl : k = s.calls.length := by omega
              obtain ⟨w9, hw9⟩ : ∃ w9, w9 = wr := ⟨_, rfl⟩
              subst hw9
              have hb9 : Below w6.heap.size w6 w9 := by rw [← HXE.out]; exact hbl
              have hSh9 := HX6.out.2.1.below hb9
              have hFl9 := HX6.out.2.2.same (hb9.block _ HX6.out.2.2.lt)
              have H9 := hide1 (And.intro hFk (And.intro hSh9 (And.intro hFl9 h5)))
              clear hFk hSh9 hFl9 h5 hb9 hbl HX6 HFV b4 hR1l
              go_wp2_with fail
              go_loopw [19] (fun i wr => ∃ k : Nat, c ≤ k ∧ k ≤ fs.length ∧ i = .int .i64 k ∧ RelE w.heap.size A a fs w s.calls ph w9 k wr) (fun i _ => fs.length - (intOf i).toNat)
              case atStart => exact ⟨c, Nat.le_refl _, hcf, rfl, s, ph, H9.out.1, Later.refl _, Grows.refl _ _⟩
              case round =>
                obtain ⟨k, hck, hk, rfl, s2, ph2, hF, hLt, hGr⟩ := hrel
                by_cases hlt : k < fs.length
                · obtain ⟨b, rfl, hb, hlb, hrow⟩ := hF.frags.at hlt
                  obtain ⟨f, hf⟩ : ∃ f, fs[k]? = some f := ⟨_, List.getElem?_eq_getElem hlt⟩
                  obtain ⟨c0, c1, c2, c3, c4⟩ := hrow k _ hf
                  simp only [Nat.zero_add] at c0 c1 c2 c3 c4
                  obtain ⟨hcn2, hfz, hsz⟩ := feed_size hF HZ.out hlen hf
                  have HF := hide1 hf
                  obtain ⟨Y, hY⟩ : ∃ Y, wr.heap[b]? = some Y := ⟨_, Array.getElem?_eq_getElem hb⟩
                  have HY := hide1 hY
                  have HFE := hide1 (And.intro hF (And.intro hLt hGr))
                  clear hf hF hY hrow hLt hGr
                  go_wp2_with fail
                  refine (toFragment_any f _).mono ?_
                  rintro e w1 ⟨rfl, hw1⟩
                  obtain ⟨hF2, hbx1⟩ := HFE.out.1.two hw1 HY.out
                  have hGa : Grows ph2 wr ph2 w1 := by rw [hw1]; exact (Grows.alloc _ _ _).trans (Grows.alloc _ _ _)
                  have HGA := hide1 hGa
                  clear hw1 hGa
                  go_wp2_with fail
                  refine (zzAdd_any hF2.holds hF2.names hF2.good.sorted (by omega) f hsz (by omega)).mono ?_
                  rintro e w2 ⟨N, ph3, rfl, hN, h1, h2, h3⟩
                  obtain ⟨hF3, hbx2, hL, hpos⟩ := hF2.add hN h1 h2 h3 hbx1 hlb
                  have hne : ∀ q ∈ s2.calls, q.blk ≠ N := fun q hq e => by have := (hF2.holds.labs _ _ (hF2.holds.labCall q hq)).2; omega
                  have HF3 := hide1 (And.intro hF3 (And.intro (HFE.out.2.1.add f hF2.holds.nodup hne) ((HFE.out.2.2.trans HGA.out).trans h3)))
                  clear hN h1 h2 h3 hL hpos hF3 hF2 hbx1 hbx2 hne
                  go_wp2_with fail
                  go_roundw
                  case rel => exact ⟨k + 1, by omega, by omega, by go_num, _, ph3, by rw [List.take_add_one, HF.out]; exact HF3.out.1, HF3.out.2.1, HF3.out.2.2⟩
                  case measure => simp [intOf]; omega
                · obtain rfl : k = fs.length := by omega
                  rw [List.take_length] at hF
                  have hcn2 : s2.calls.length ≤ 4096 := by have := hF.good.count; omega
                  have hll := hLt.length
                  have hSh := H9.out.2.1.keep (hGr.block _ H9.out.2.1.ltR HUN.out.1) (hGr.block _ H9.out.2.1.ltg HUN.out.2.1)
                  have hFl := H9.out.2.2.1.same (hGr.block _ H9.out.2.2.1.lt HUN.out.2.2)
                  have h5 := H9.out.2.2.2.grows hGr HUX.out
                  have H10 := hide1 (And.intro hF (And.intro hLt (And.intro hSh (And.intro hFl h5))))
                  clear hF hLt hGr hSh hFl h5 H9
                  go_wp2_with fail
                  refine (zzResponse_any H10.out.1.holds (by omega)).mono ?_
                  rintro e w11 ⟨g3, gc3, rfl, ho3, hb11⟩
                  obtain ⟨wY, hwY⟩ : ∃ wY, wY = w11.alloc (.cells (respCells sM sStop7 g3 s2.calls.length gc3) 44) := ⟨_, rfl⟩
                  have hbY : Below wr.heap.size wr wY := by rw [hwY]; exact hb11.alloc hb11.size _
                  have hShY : Shot w11.heap.size g3 gc3 wr.heap.size s2.calls wY := by rw [hwY]; exact Shot.start ho3
                  have hSh1 := H10.out.2.2.1.below hb11
                  have b4 := hSh1.cells 4 _ rfl
                  have hR1l := hSh1.ltR
                  have H11 := hide1 (And.intro (H10.out.1.quiet hbY) (And.intro (H10.out.2.2.1.below hbY) (And.intro (H10.out.2.2.2.1.same (hbY.block _ H10.out.2.2.2.1.lt)) (And.intro (H10.out.2.2.2.2.below hbY) hShY))))
                  have HLT := hide1 H10.out.2.1
                  clear hbY hShY hSh1 hb11 ho3 H10
                  go_wp2_with fail
                  rw [← hwY]
                  refine (sameCalls_any g1 wX.heap.size gc1 s.calls.length s.calls _ H11.out.2.1.ltg H11.out.2.2.1.lt H11.out.2.1.crow H11.out.2.2.1.crow (by omega)).mono ?_
                  rintro e w12 ⟨rfl, nd, hnd⟩
                  have hb12 : Below wY.heap.size wY w12 := by rw [hnd]; exact ⟨rfl, rfl, rfl, by simp, fun _ _ => by simp⟩
                  have hF12 := H11.out.1.quiet hb12
                  have hSh3 := H11.out.2.2.2.2.below hb12
                  have h512 := H11.out.2.2.2.1.below hb12
                  obtain ⟨R3, hR3⟩ : ∃ R3, R3 = w11.heap.size := ⟨_, rfl⟩
                  rw [← hR3] at hSh3 ⊢
                  clear hwY hR3 hnd hb12 H11 b4 hR1l
                  have b4 := hSh3.cells 4 _ rfl
                  have hR3l := hSh3.ltR
                  have H12 := hide1 (And.intro hF12 (And.intro hSh3 h512))
                  clear hF12 hSh3 h512
                  go_wp2_with fail
                  refine (numCalls_any H12.out.1.holds).mono ?_
                  rintro e w' ⟨rfl, hw⟩
                  obtain rfl := hw.symm
                  clear hw
                  go_wp2_with fail
                  go_loopw [22, 23, 24, 25] (fun kk jj _ _ W => ∃ j k : Nat, j ≤ s.calls.length ∧ k ≤ s2.calls.length ∧ jj = .int .i64 j ∧ kk = .int .i64 k ∧ Later (s.calls.drop j) (s2.calls.drop k) ∧ Below w12.heap.size w12 W) (fun _ jj _ _ _ => s.calls.length - (intOf jj).toNat)
                  case atStart => exact ⟨0, 0, Nat.zero_le _, Nat.zero_le _, rfl, rfl, HLT.out, Below.refl _ _⟩
                  case round =>
                    obtain ⟨j, k, hj, hk2, rfl, rfl, hLt, hbl⟩ := hrel
                    by_cases hjl : j < s.calls.length
                    · obtain ⟨p1, hp1⟩ : ∃ p, s.calls[j]? = some p := ⟨_, List.getElem?_eq_getElem hjl⟩
                      have HP1 := hide1 hp1
                      have HL0 := hide1 (And.intro hLt hbl)
                      clear hp1 hLt hbl b4 hR3l
                      go_wp2_with fail
                      go_loopw [22] (fun kk W => ∃ k : Nat, k ≤ s2.calls.length ∧ kk = .int .i64 k ∧ Later (s.calls.drop j) (s2.calls.drop k) ∧ Below w12.heap.size w12 W) (fun kk _ => s2.calls.length - (intOf kk).toNat)
                      case atStart => exact ⟨k, hk2, rfl, HL0.out.1, HL0.out.2⟩
                      case round =>
                        clear HL0 hk2
                        obtain ⟨k, hk2, rfl, hLt, hbl⟩ := hrel
                        have hkl := hLt.more HP1.out
                        obtain ⟨q, hq⟩ : ∃ q, s2.calls[k]? = some q := ⟨_, List.getElem?_eq_getElem hkl⟩
                        have hFq := H12.out.1.quiet hbl
                        have hqm := List.mem_of_getElem? hq
                        have h5 := H12.out.2.2.below hbl
                        have k27 : ∀ n, Calls Try.prog 27 #[.pointer (some ⟨A, 0, none⟩), .int .i64 (k : Nat)] (wr.drewN n) _ := fun n => call_any (hFq.holds.drewN n) k q hq
                        have g : ∀ (f : Call → Value), (s.calls.map f)[j]? = some (f p1) := fun f => by rw [List.getElem?_map, HP1.out]; rfl
                        have y1 := h5.1.cell hjl (g Call.ptr)
                        have hX1l := h5.1.lt
                        rcases hLt.look_at HP1.out hq hFq.holds.nodup with ⟨heq, hext, hnext⟩ | ⟨hne, hnext⟩
                        · have hpq : Value.pointer (some ⟨p1.blk, 0, none⟩) = .pointer (some ⟨q.blk, 0, none⟩) := by rw [heq]
                          have y1' : wr.cell? ⟨X, j, none⟩ = some (.pointer (some ⟨q.blk, 0, none⟩)) := by rw [← hpq]; exact y1
                          obtain ⟨t2, hout⟩ := hext.out
                          obtain ⟨-, hidx, hid, hnm, t, hargs⟩ := hext
                          have hSh := H12.out.2.1.below hbl
                          obtain ⟨t0, t1, tt2⟩ := hSh.crow k q hq
                          rw [hout] at tt2
                          have b4 := hSh.cells 4 _ rfl
                          have hR3l := hSh.ltR
                          have hg3l := hSh.ltg
                          have y2 := h5.2.1.cell hjl (g fun p => .int .i64 p.index)
                          have y3 := h5.2.2.1.cell hjl (g fun p => .string p.id)
                          have y4 := h5.2.2.2.1.cell hjl (g fun p => .string p.name)
                          have y5 := h5.2.2.2.2.cell hjl (g fun p => .string p.args)
                          have hX2l := h5.2.1.lt
                          have hX3l := h5.2.2.1.lt
                          have hX4l := h5.2.2.2.1.lt
                          have hX5l := h5.2.2.2.2.lt
                          have hqa : q.args.size ≤ 1048576 := by have t1 := args_le hFq.good hqm; have t2 := fsum_le_total fs; have t3 := HZ.out; omega
                          have hs1 : (p1.args ++ t).size ≤ 1000000000 := by rw [← hargs]; omega
                          have hs2 : (p1.args ++ t2).size ≤ 1000000000 := by
                            rw [← hout]
                            unfold argOut
                            split
                            · decide
                            · omega
                          have hHW := fun n => hFq.holds.drewN n
                          obtain ⟨qi, hqi⟩ : ∃ qi, qi = q.id := ⟨_, rfl⟩
                          obtain ⟨qn, hqn⟩ : ∃ qn, qn = q.name := ⟨_, rfl⟩
                          obtain ⟨AA, hAA⟩ : ∃ AA, AA = p1.args ++ t := ⟨_, rfl⟩
                          obtain ⟨BB, hBB⟩ : ∃ BB, BB = p1.args ++ t2 := ⟨_, rfl⟩
                          have k26 : ∀ n, Calls Try.prog 26 #[.pointer (some ⟨q.blk, 0, none⟩)] (wr.drewN n) fun e w' => e = .returned (.int .i64 p1.index) ∧ w' = wr.drewN n := fun n => by have := callIndex_any (hHW n) q hqm; rw [hidx] at this; exact this
                          have k28 : ∀ n, Calls Try.prog 28 #[.pointer (some ⟨q.blk, 0, none⟩)] (wr.drewN n) fun e w' => e = .returned (.string qi) ∧ w' = wr.drewN n := fun n => by rw [hqi]; exact callId_any (hHW n) q hqm
                          have k29 : ∀ n, Calls Try.prog 29 #[.pointer (some ⟨q.blk, 0, none⟩)] (wr.drewN n) fun e w' => e = .returned (.string qn) ∧ w' = wr.drewN n := fun n => by rw [hqn]; exact callName_any (hHW n) q hqm
                          have k30 : ∀ n, Calls Try.prog 30 #[.pointer (some ⟨q.blk, 0, none⟩)] (wr.drewN n) fun e w' => e = .returned (.string AA) ∧ w' = wr.drewN n := fun n => by rw [hAA, ← hargs]; exact callArgs_any (hHW n) q hqm
                          have k37a : ∀ W, Calls Try.prog 37 #[.string AA, .string p1.args] W fun e w' => e = .returned (.bool true) ∧ ∃ n, w' = W.drewN n := fun W => by rw [hAA]; exact hasPrefix_any p1.args t W hs1
                          have k37b : ∀ W, Calls Try.prog 37 #[.string BB, .string p1.args] W fun e w' => e = .returned (.bool true) ∧ ∃ n, w' = W.drewN n := fun W => by rw [hBB]; exact hasPrefix_any p1.args t2 W hs2
                          rw [← hBB] at tt2
                          rw [← hqi] at t0 hid
                          rw [← hqn] at t1 hnm
                          have hneq := neq_same
                          have hda : ∀ n o, (wr.drewN n).alloc o = (wr.alloc o).drewN n := fun _ _ => rfl
                          have hbx : ∀ o n u0 u1 u2 m, Below w12.heap.size w12 ((((((wr.alloc o).drewN n).setCell ⟨wr.heap.size, 0, none⟩ u0).setCell ⟨wr.heap.size, 1, none⟩ u1).setCell ⟨wr.heap.size, 2, none⟩ u2).drewN m) := fun o n u0 u1 u2 m => below_drewN ((((below_box hbl hbl.size o n).setCell hbl.size u0).setCell hbl.size u1).setCell hbl.size u2) m
                          have HBX := hide1 hbx
                          have HN := hide1 (And.intro hnext hbl)
                          clear hnext hbl hLt hq hFq hqm h5 g heq hpq y1 hout hargs hidx hSh hqa hs1 hs2 hHW hqi hqn hAA hBB hbx
                          by_cases e1 : emp p1.id = true
                          · have i1 : p1.id.toList.isEmpty = true := e1
                            by_cases e2 : emp p1.name = true
                            · have i2 : p1.name.toList.isEmpty = true := e2
                              clear hid hnm
                              clear e1 e2
                              go_wp2_with fail
                              go_quiet ((go_at_call 27; exact Calls.quiet_of_same (k27 _)))
                              go_wp2_with fail
                              go_quiet ((go_at_call 26; exact quiet_at (k26 _)))
                              go_wp2_with fail
                              go_quiet ((go_at_call 28; exact quiet_at (k28 _)))
                              go_wp2_with fail
                              go_quiet ((go_at_call 29; exact quiet_at (k29 _)))
                              go_wp2_with fail
                              go_quiet ((first | (go_at_call 30; exact quiet_at (k30 _)) | (go_at_call 37; exact quiet_at2 (k37a _))))
                              go_wp2_with fail
                              go_quiet (fail)
                              go_wp2_with fail
                              go_quiet (fail)
                              go_wp2_with fail
                              go_quiet ((go_at_call 37; exact quiet_at2 (k37b _)))
                              go_wp2_with fail
                              go_roundw
                              case rel => exact ⟨j + 1, k + 1, by omega, by omega, by go_num, by go_num, HN.out.1, HBX.out _ _ _ _ _ _⟩
                              case measure => simp [intOf]; omega
                            · have i2 := emp_false e2
                              obtain rfl := hnm e2
                              clear hid hnm
                              clear e1 e2
                              go_wp2_with fail
                              go_quiet ((go_at_call 27; exact Calls.quiet_of_same (k27 _)))
                              go_wp2_with fail
                              go_quiet ((go_at_call 26; exact quiet_at (k26 _)))
                              go_wp2_with fail
                              go_quiet ((go_at_call 28; exact quiet_at (k28 _)))
                              go_wp2_with fail
                              go_quiet ((go_at_call 29; exact quiet_at (k29 _)))
                              go_wp2_with fail
                              go_quiet ((first | (go_at_call 30; exact quiet_at (k30 _)) | (go_at_call 37; exact quiet_at2 (k37a _))))
                              go_wp2_with fail
                              go_quiet (fail)
                              go_wp2_with fail
                              go_quiet (fail)
                              go_wp2_with fail
                              go_quiet ((go_at_call 37; exact quiet_at2 (k37b _)))
                              go_wp2_with fail
                              go_roundw
                              case rel => exact ⟨j + 1, k + 1, by omega, by omega, by go_num, by go_num, HN.out.1, HBX.out _ _ _ _ _ _⟩
                              case measure => simp [intOf]; omega
                          · have i1 := emp_false e1
                            obtain rfl := hid e1
                            by_cases e2 : emp p1.name = true
                            · have i2 : p1.name.toList.isEmpty = true := e2
                              clear hid hnm
                              clear e1 e2
                              go_wp2_with fail
                              go_quiet ((go_at_call 27; exact Calls.quiet_of_same (k27 _)))
                              go_wp2_with fail
                              go_quiet ((go_at_call 26; exact quiet_at (k26 _)))
                              go_wp2_with fail
                              go_quiet ((go_at_call 28; exact quiet_at (k28 _)))
                              go_wp2_with fail
                              go_quiet ((go_at_call 29; exact quiet_at (k29 _)))
                              go_wp2_with fail
                              go_quiet ((first | (go_at_call 30; exact quiet_at (k30 _)) | (go_at_call 37; exact quiet_at2 (k37a _))))
                              go_wp2_with fail
                              go_quiet (fail)
                              go_wp2_with fail
                              go_quiet (fail)
                              go_wp2_with fail
                              go_quiet ((go_at_call 37; exact quiet_at2 (k37b _)))
                              go_wp2_with fail
                              go_roundw
                              case rel => exact ⟨j + 1, k + 1, by omega, by omega, by go_num, by go_num, HN.out.1, HBX.out _ _ _ _ _ _⟩
                              case measure => simp [intOf]; omega
                            · have i2 := emp_false e2
                              obtain rfl := hnm e2
                              clear hid hnm
                              clear e1 e2
                              go_wp2_with fail
                              go_quiet ((go_at_call 27; exact Calls.quiet_of_same (k27 _)))
                              go_wp2_with fail
                              go_quiet ((go_at_call 26; exact quiet_at (k26 _)))
                              go_wp2_with fail
                              go_quiet ((go_at_call 28; exact quiet_at (k28 _)))
                              go_wp2_with fail
                              go_quiet ((go_at_call 29; exact quiet_at (k29 _)))
                              go_wp2_with fail
                              go_quiet ((first | (go_at_call 30; exact quiet_at (k30 _)) | (go_at_call 37; exact quiet_at2 (k37a _))))
                              go_wp2_with fail
                              go_quiet (fail)
                              go_wp2_with fail
                              go_quiet (fail)
                              go_wp2_with fail
                              go_quiet ((go_at_call 37; exact quiet_at2 (k37b _)))
                              go_wp2_with fail
                              go_roundw
                              case rel => exact ⟨j + 1, k + 1, by omega, by omega, by go_num, by go_num, HN.out.1, HBX.out _ _ _ _ _ _⟩
                              case measure => simp [intOf]; omega
                        · obtain ⟨q1, hq1, hex1⟩ := hLt.mem p1 (List.mem_iff_getElem?.2 ⟨0, by rw [List.getElem?_drop]; exact HP1.out⟩)
                          have hq1m : q1 ∈ s2.calls := List.mem_of_mem_drop hq1
                          have hneq : ∀ n, (binOp .neq 57 q.ptr p1.ptr).run Try.prog (wr.drewN n) = .ok (.bool true) (wr.drewN n) := fun n =>
                            neq_other (fun e => hne (congrArg Addr.block e)) ((hFq.holds.drewN n).call q hqm) (by have := (hFq.holds.drewN n).call q1 hq1m; rw [hex1.1] at this; exact this)
                          have HN := hide1 (And.intro hnext hbl)
                          clear hnext hbl hLt hq hFq hqm h5 g hq1 hex1 hq1m hne
                          go_wp2_with fail
                          go_quiet ((go_at_call 27; exact Calls.quiet_of_same (k27 _)))
                          go_wp2_with fail
                          go_roundw
                          case rel => exact ⟨k + 1, by omega, by go_num, HN.out.1, HN.out.2.trans ⟨rfl, rfl, rfl, by simp, fun _ _ => by simp⟩⟩
                          case measure => simp [intOf]; omega
                    · have HEND := hide1 (H12.out.1.below.trans (hbl.mono H12.out.1.size))
                      clear hLt hbl
                      go_wp2_with fail
                      go_ret
                      exact ⟨rfl, HEND.out⟩

end Go.Proofs.Qxb6600954a
